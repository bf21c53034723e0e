import PyProof.Rows.All
import Wide.All
import OpenK.AllK
import Wide.FinOn
import Lean
import PySem.Challenge.RW_qc0004_01
set_option Elab.async false
section
open PySem PySem.W PyProof.Rows
set_option maxRecDepth 100000
set_option maxHeartbeats 8000000
namespace Mine
section
local macro_rules | `(tactic| o_head $_) => `(tactic| exact False.elim (by assumption))
theorem frag (h : False) : PySem.Challenge.rw_qc0004_01.row.Holds := by
  k_head
end
end Mine
end
section
open PySem PySem.W PyProof.Rows PySem.Calls PySem.Spec PyProof.V
set_option maxRecDepth 100000
namespace Mine

section
variable {prog : Program} {w : World} {A : Around} {E : Value → Shared → Prop} {s : Shared} {env : Env} {h₀ : Heap} {target : Expr} {body : List Stmt} {Q : Flow → Shared → Prop}

/-- the rest of a loop by an invariant over what is left of its items -/
theorem items_ind {α : Type} {ws : List (Addr × String)} {keep : List (Addr × Obj)} (f : α → Itm) (J : (Str → Option Value) → List (Addr × Obj) → List α → (Str → Option Value) → List (Addr × Obj) → Prop)
    {xs : List α} {m₀ : Str → Option Value} {n₀ : List (Addr × Obj)} (h0 : J m₀ n₀ xs m₀ n₀)
    (turn : ∀ a r m news v h tk, J m₀ n₀ (a :: r) m news → (f a).Is v h → Fr h₀ env.locals h m → AllObj ws (fun its => News h₀ env.locals h (its ++ news) →
      wpAny (model prog w) A (assign target env v) (fun _ s₂ => wpAny (model prog w) A (execs body env) (UnrPostW h₀ env.locals { s with heap := h, toks := tk } its (fun m' n' => SubL keep n' ∧ J m₀ n₀ r m' n') Q) E s₂) E { s with heap := h, toks := tk }))
    (zero : ∀ m news h tk, J m₀ n₀ [] m news → Fr h₀ env.locals h m → News h₀ env.locals h news → Q .next { s with heap := h, toks := tk }) :
    ItemsRest prog w A E h₀ env target body Q s ws keep (xs.map f) m₀ n₀ := by
  have go : ∀ (r : List α) (m : Str → Option Value) (news : List (Addr × Obj)), J m₀ n₀ r m news → ItemsRest prog w A E h₀ env target body Q s ws keep (r.map f) m news := by
    intro r
    induction r with
    | nil => intro m news hJ h tk F N; exact zero m news h tk hJ F N
    | cons a r ih =>
      intro m news hJ v h tk hv F
      have T := turn a r m news v h tk hJ hv F
      have mono : ∀ (ws : List (Addr × String)) (k k' : List (Addr × Obj) → Prop), (∀ its, k its → k' its) → AllObj ws k → AllObj ws k' := by
        intro ws
        induction ws with
        | nil => intro k k' h hk; exact h _ hk
        | cons x ws ih => intro k k' h hk o ho; exact ih _ _ (fun its => h _) (hk o ho)
      refine mono _ _ _ (fun its hk N => ?_) T
      refine wpAny_mono (hk N) (fun _ s₂ h₂ => wpAny_mono h₂ (fun fl s₃ h₃ => ?_) fun _ _ e => e) fun _ _ e => e
      have fin : UnrEndW h₀ env.locals { s with heap := h, toks := tk } its (fun m' n' => SubL keep n' ∧ J m₀ n₀ r m' n') s₃ → UnrEndW h₀ env.locals { s with heap := h, toks := tk } its (fun m' n' => SubL keep n' ∧ ItemsRest prog w A E h₀ env target body Q s ws keep (r.map f) m' n') s₃ := by
        rintro ⟨h', tk', m', n', e, F', N', ho, hk', hj⟩
        exact ⟨h', tk', m', n', e, F', N', ho, hk', ih _ _ hj⟩
      cases fl with
      | ret v => exact h₃
      | brk => exact h₃
      | next => exact fin h₃
      | cont => exact fin h₃
  exact go xs m₀ n₀ h0
end

/-- an int dict's object -/
def IntD (w : World) (o : Obj) (c : List (Int × Int)) : Prop :=
  ∃ kvs, o.IsDictOf (PySem.intKind PySem.Challenge.rw_qc0004_01.row.prog w) kvs ∧ FlatPairs PyData.int kvs (kdfD c)

def putAll (acc : List (Int × Int)) (l : List (Int × Int)) : List (Int × Int) := l.foldl (fun acc p => kdfPut acc p.1 p.2) acc
def addStep (acc : List (Int × Int)) (p : Int × Int) : List (Int × Int) :=
  if kdfHas acc p.1 then kdfPut acc p.1 (kdfLook acc p.1 0 + p.2) else kdfPut acc p.1 p.2
def addC (t s : List (Int × Int)) : List (Int × Int) := s.foldl addStep (putAll [] t)

theorem upd2 (m : Str → Option Value) (x y : Str) : m = fun z => if z = x then m x else if z = y then m y else m z := by
  funext z
  by_cases h : z = x
  · subst h; simp
  · by_cases h2 : z = y
    · subst h2; simp [h]
    · simp [h, h2]
theorem kdf_map (c : List (Int × Int)) : (kdfD c).map (fun p => Itm.pairF (kyVal p.1) p.2) = c.map fun p => Itm.pairF (fun t => Value.int p.1 t) (PyData.int p.2) := by
  unfold kdfD; rw [List.map_map]; rfl
theorem upd22 (m : Str → Option Value) (x y : Str) (a b a' b' : Option Value) : (fun z => if z = x then a else if z = y then b else if z = x then a' else if z = y then b' else m z) = fun z => if z = x then a else if z = y then b else m z := by
  funext z
  by_cases h : z = x
  · subst h; simp
  · by_cases h2 : z = y
    · subst h2; simp [h]
    · simp [h, h2]
theorem offI {l l' : List (Addr × Obj)} {i : Addr} {oi : Obj} (h : ∀ p ∈ l, p.1 < i) (e : l'.map (·.1) = l.map (·.1)) : ∀ p ∈ l', ∀ q ∈ [(i, oi)], p.1 ≠ q.1 := by
  intro p hp q hq
  have h1 : p.1 ∈ l.map (·.1) := e ▸ List.mem_map.mpr ⟨p, hp, rfl⟩
  obtain ⟨r, hr, hre⟩ := List.mem_map.mp h1
  rw [List.mem_singleton.mp hq, ← hre]
  exact Nat.ne_of_lt (h r hr)
theorem kdf_getItem {prog : Program} {w : World} {A : Around} {E : Value → Shared → Prop} {s : Shared} {d : Addr} {c : List (Int × Int)} {k : Int} {tk : Tok} {Q : Value → Shared → Prop} (T : IntTab prog w s.heap d (kdfD c)) (hk : kdfHas c k = true)
    (h : ∀ t, Q (.int (kdfLook c k 0) t) { s with toks := s.toks + 1 }) : wpAny (model prog w) A (getItem (.ref d) (.int k tk)) Q E s :=
  getItem_tab (knd := PySem.intKind prog w) (enc := PyData.int) PyProof.V.same_int (intKind_is _ _ _ _) T (kdfD_item hk) fun v hv => by
    obtain ⟨t, ht⟩ := PyProof.V.Flat.int_inv hv
    rw [ht]
    exact h t
theorem addStep_len (c : List (Int × Int)) (p : Int × Int) : (addStep c p).length ≤ c.length + 1 := by
  unfold addStep
  split
  · exact kdfPut_len _ _ _
  · exact kdfPut_len _ _ _
theorem addC_go (c : List (Int × Int)) : ∀ l : List (Int × Int), (l.foldl addStep c).length ≤ c.length + l.length := by
  intro l
  induction l generalizing c with
  | nil => simp
  | cons p l ih => have := ih (addStep c p); have := addStep_len c p; simp only [List.foldl_cons, List.length_cons]; omega
theorem putAll_len (c : List (Int × Int)) : ∀ l : List (Int × Int), (putAll c l).length ≤ c.length + l.length := by
  intro l
  induction l generalizing c with
  | nil => simp [putAll]
  | cons p l ih => have := ih (kdfPut c p.1 p.2); have := kdfPut_len c p.1 p.2; simp only [putAll, List.foldl_cons, List.length_cons] at *; omega
theorem addC_len (a b : List (Int × Int)) : (addC a b).length ≤ a.length + b.length := by
  have h1 := addC_go (putAll [] a) b
  have h2 := putAll_len [] a
  unfold addC
  simp at h2
  omega
end Mine
end
section
open PySem PySem.W PyProof.Rows PySem.Calls PySem.Spec PyProof.V
set_option maxRecDepth 100000
namespace Mine

theorem flat_at {kvs : List (Int × Value)} {c : List (Int × Int)} (hf : FlatPairs PyData.int kvs (kdfD c)) {i : Nat} {k : Int} {v : Value} (h : kvs[i]? = some (k, v)) : ∃ x t, c[i]? = some (k, x) ∧ v = .int x t := by
  obtain ⟨dv, hD, hfl⟩ := hf.at h
  unfold kdfD at hD
  rw [List.getElem?_map] at hD
  cases hc : c[i]? with
  | none => rw [hc] at hD; cases hD
  | some p =>
    rw [hc] at hD
    simp only [Option.map_some, Option.some.injEq, Prod.mk.injEq, PyData.int.injEq] at hD
    obtain ⟨h1, h2⟩ := hD
    subst h2
    obtain ⟨t, ht⟩ := PyProof.V.Flat.int_inv hfl
    exact ⟨p.2, t, by rw [← h1], ht⟩

theorem putAll_snoc (acc : List (Int × Int)) (l : List (Int × Int)) (p : Int × Int) : putAll acc (l ++ [p]) = kdfPut (putAll acc l) p.1 p.2 := by
  unfold putAll; rw [List.foldl_append]; rfl

section
variable {prog : Program} {w : World} {A : Around} {E : Value → Shared → Prop} {R : Result → Shared → Prop} {s : Shared}

/-- one step of a dict comprehension over an int dict's items -/
theorem compLoop_itemsD {kx vx iter : Expr} {xk xv : Str} {pk pv pt : Pos} {x1 : Nat} {scope : Scope} {pos : Pos} {I d D : Addr} {cenv : Env} {m : Str → Option Value} {kvs : List (Int × Value)} {ep : Nat} {c : List (Int × Int)} (g : Int × Int → Int × Int)
    (hh : A.handled = none) (hne : xk ≠ xv)
    (hxk : cenv.kindOf xk = some .local) (hxv : cenv.kindOf xv = some .local) (hp : (cenv.scope.kind == .class || (cenv.scope.kind == .module && cenv.locals != cenv.globals)) = false)
    (hDC : D ≠ cenv.locals) (hDI : D ≠ I) (hDd : D ≠ d) (hCI : cenv.locals ≠ I) (hCd : cenv.locals ≠ d) (hdI : d ≠ I)
    (hit : IsItemIter s.heap I d 0 kvs.length ep .none .none) (hm : s.heap.DictAt (PySem.intKind prog w) d kvs ep) (hf : FlatPairs PyData.int kvs (kdfD c))
    (hacc : s.heap.DictOf (PySem.intKind prog w) D []) (hn : s.heap.Ns cenv.locals m) (hsz : c.length ≤ 1000000)
    (hkey : ∀ k v tk tv s₂ m₂ E', (k, v) ∈ c → s₂.heap.Ns cenv.locals m₂ → m₂ xk = some (.int k tk) → m₂ xv = some (.int v tv) → (∀ b o, b ≠ cenv.locals → b ≠ I → b ≠ D → s.heap.get? b = some o → s₂.heap.get? b = some o) →
      wpAny (model prog w) A (eval kx cenv) (fun key s₃ => (∃ t, key = .int (g (k, v)).1 t) ∧ Keeps s₂ s₃) E' s₂)
    (hval : ∀ k v tk tv s₂ m₂ E', (k, v) ∈ c → s₂.heap.Ns cenv.locals m₂ → m₂ xk = some (.int k tk) → m₂ xv = some (.int v tv) → (∀ b o, b ≠ cenv.locals → b ≠ I → b ≠ D → s.heap.get? b = some o → s₂.heap.get? b = some o) →
      wpAny (model prog w) A (eval vx cenv) (fun y s₃ => (∃ t, y = .int (g (k, v)).2 t) ∧ Keeps s₂ s₃) E' s₂)
    (hR : ∀ h' tk m' kvs', h'.Ns cenv.locals m' → h'.DictOf (PySem.intKind prog w) D kvs' → FlatPairs PyData.int kvs' (kdfD (putAll [] (c.map g))) →
      (∀ b o, b ≠ cenv.locals → b ≠ I → b ≠ D → s.heap.get? b = some o → h'.get? b = some o) → R (.ok .next) { s with heap := h', toks := tk }) :
    codeAny (model prog w) A (.compLoop (.DictComp kx vx [⟨.Tuple [.Name xk pk, .Name xv pv] x1 pt, iter, [], 0⟩] scope pos) 0 (.ref I) (.ref D) cenv) R s := by
  have hlen : kvs.length = c.length := by have := hf.length; rw [kdfD_length] at this; exact this.symm
  refine codeAny_loop rfl (fun n s' => ∃ h' tk m' i ok ov kvs', s' = { s with heap := h', toks := tk } ∧ IsItemIter h' I d i kvs.length ep ok ov ∧ h'.DictAt (PySem.intKind prog w) d kvs ep ∧ h'.DictOf (PySem.intKind prog w) D kvs' ∧
      FlatPairs PyData.int kvs' (kdfD (putAll [] ((c.take i).map g))) ∧ h'.Ns cenv.locals m' ∧ i ≤ kvs.length ∧ n = kvs.length + 1 - i ∧ ∀ b o, b ≠ cenv.locals → b ≠ I → b ≠ D → s.heap.get? b = some o → h'.get? b = some o) ?_ (kvs.length + 1)
    ⟨s.heap, s.toks, m, 0, .none, .none, [], rfl, hit, hm, hacc, by simpa [putAll, kdfD] using FlatPairs.nil, hn, Nat.zero_le _, rfl, fun _ _ _ _ _ e => e⟩
  rintro n s' ⟨H, tk, m', i, ok, ov, kvs', rfl, hit', hm', hacc', hf', hn', hi, rfl, hk⟩
  show wpAny _ A ((compTurn (.DictComp kx vx [⟨.Tuple [.Name xk pk, .Name xv pv] x1 pt, iter, [], 0⟩] scope pos) 0 (.ref I) (.ref D) cenv).onRaise (fun x => do noteFrame x cenv; theTreesLotGoes x)) _ _ _
  refine wpAny_noted ?_
  rw [compTurn_dict]
  refine wpAny_bind (wpAny_standAt (wpAny_bind ?_))
  cases hv : kvs[i]? with
  | none =>
    have hsz' : i = kvs.length := Nat.le_antisymm hi (by simpa using hv)
    refine wpAny_pyNext_items_end hh hit' hm' hv fun h₁ he₁ => wpAny_pure ?_
    refine hR h₁ tk m' kvs' (hn'.extBut he₁ hCI) (hacc'.extBut he₁ hDI) ?_ fun b o h1 h2 h3 e => he₁ b o h2 (hk b o h1 h2 h3 e)
    rw [hsz', hlen, List.take_length] at hf'
    exact hf'
  | some kv =>
    obtain ⟨k, v⟩ := kv
    obtain ⟨x, t, hci, rfl⟩ := flat_at hf hv
    have hlt : i < kvs.length := (List.getElem?_eq_some_iff.mp hv).1
    have hmem : (k, x) ∈ c := List.mem_of_getElem? hci
    refine wpAny_pyNext_items_item hit' hm' hv fun key h₁ hkk heo ht₁ hz₁ hk₁ => ?_
    obtain ⟨tk₁, rfl⟩ := Value.isInt_shape hkk
    refine wpAny_bind (wpAny_letOwnedTupleGo_items heo fun h₂ he₂ hs₂ => ?_)
    replace hs₂ : Heap.SameBut I h₁ h₂ := hs₂
    have hiH : I < H.objs.size := Heap.lt_size hit'
    have ht₂ : h₂.IsTuple H.objs.size #[.int k tk₁, .int x t] := ⟨_, (hs₂.2 _ (Nat.ne_of_gt hiH)).trans ht₁, rfl, _, rfl⟩
    have up₂ : ∀ b o, b ≠ I → H.get? b = some o → h₂.get? b = some o := fun b o hb e => hs₂.extBut b o hb (hk₁ b o hb e)
    refine wpAny_bind (kcp_assign hh ht₂ hxk hxv hp (hn'.at' fun o e => up₂ _ o hCI e) fun h₃ tk₃ hn₃ hs₃ => ?_)
    have up₃ : ∀ b o, b ≠ cenv.locals → b ≠ I → H.get? b = some o → h₃.get? b = some o := fun b o h1 h2 e => hs₃ b o h1 (up₂ b o h2 e)
    refine wpAny_bind (wpAny_tests_nil ?_)
    have all₃ : ∀ b o, b ≠ cenv.locals → b ≠ I → b ≠ D → s.heap.get? b = some o → h₃.get? b = some o := fun b o h1 h2 h3 e => up₃ b o h1 h2 (hk b o h1 h2 h3 e)
    refine wpAny_bind (wpAny_bind (wpAny_mono (hkey k x tk₁ t _ _ _ hmem hn₃ (by simp [hne]) (by simp) all₃) (fun y1 s₄ h₄ => ?_) fun _ _ e => e))
    obtain ⟨⟨t4, rfl⟩, h₄, tk₄, rfl, hk₄⟩ := h₄
    refine wpAny_bind (wpAny_holding (wpAny_mono (hval k x tk₁ t _ _ _ hmem (hn₃.keeps hk₄) (by simp [hne]) (by simp) fun b o h1 h2 h3 e => hk₄ b o (all₃ b o h1 h2 h3 e)) (fun y2 s₅ h₅ => ?_) fun _ _ e => e))
    obtain ⟨⟨t5, rfl⟩, h₅, tk₅, rfl, hk₅⟩ := h₅
    refine wpAny_bind (wpAny_standAt (wpAny_holding ?_))
    have acc₅ : h₅.DictOf (PySem.intKind prog w) D kvs' := hacc'.at fun o e => hk₅ _ o (hk₄ _ o (up₃ D o hDC hDI e))
    have hl' : kvs'.length ≤ sizeLine := by
      have e1 := hf'.length
      rw [kdfD_length] at e1
      have e2 := putAll_len [] ((c.take i).map g)
      simp only [List.length_nil, List.length_map, List.length_take] at e2
      have : min i c.length ≤ c.length := Nat.min_le_right _ _
      rw [sizeLine_eq]; omega
    refine wpAny_dictSet_pairs (hsz := hl') (k := (g (k, x)).1) (intKind_is _ _ _ _) acc₅ fun h₆ hl₆ hs₆ => ?_
    have up₆ : ∀ b o, b ≠ cenv.locals → b ≠ I → b ≠ D → H.get? b = some o → h₆.get? b = some o := fun b o h1 h2 h3 e => hs₆.extBut b o h3 (hk₅ b o (hk₄ b o (up₃ b o h1 h2 e)))
    have it₃ : IsItemIter h₃ I d (i + 1) kvs.length ep (.int k tk₁) (.int x t) := hs₃ I _ (Ne.symm hCI) he₂
    refine wpAny_pure ⟨rfl, kvs.length + 1 - (i + 1), (by omega), h₆, _, _, i + 1, _, _, _, rfl, hs₆.extBut I _ (Ne.symm hDI) (hk₅ _ _ (hk₄ _ _ it₃)), hm'.at fun o e => up₆ d o (Ne.symm hCd) hdI (Ne.symm hDd) e, hl₆, ?_,
      ((hn₃.keeps hk₄).keeps hk₅).sameBut hs₆ (Ne.symm hDC), hlt, rfl, fun b o h1 h2 h3 e => up₆ b o h1 h2 h3 (hk b o h1 h2 h3 e)⟩
    have ht : (c.take (i + 1)).map g = (c.take i).map g ++ [g (k, x)] := by
      rw [List.take_add_one, hci, List.map_append]; rfl
    rw [ht, putAll_snoc, ← kdfD_put]
    exact FlatPairs.stored PyProof.V.same_int hf' _ (PyProof.V.Flat.int _ _)

theorem comp_block_itemsD {kx vx iter : Expr} {xk xv : Str} {pk pv pt : Pos} {x1 : Nat} {scope : Scope} {pos : Pos} {I d : Addr} {env : Env} {cl : List (Str × Addr)} {kvs : List (Int × Value)} {ep : Nat} {c : List (Int × Int)} (g : Int × Int → Int × Int) {RR : Value → Addr → Result → Shared → Prop}
    (hh : A.handled = none) (hne : xk ≠ xv) (hcell : ∀ y ∈ scope.names, y.2 ≠ .cell) (hkind : scope.kind = .function) (hxk : scope.names.lookup xk = some .local) (hxv : scope.names.lookup xv = some .local)
    (hdI : d ≠ I) (hit : IsItemIter s.heap I d 0 kvs.length ep .none .none) (hm : s.heap.DictAt (PySem.intKind prog w) d kvs ep) (hf : FlatPairs PyData.int kvs (kdfD c)) (hsz : c.length ≤ 1000000)
    (hkey : ∀ C k v tk tv s₂ m₂ E', (k, v) ∈ c → s₂.heap.Ns C m₂ → m₂ xk = some (.int k tk) → m₂ xv = some (.int v tv) → (∀ b o, b ≠ I → s.heap.get? b = some o → s₂.heap.get? b = some o) →
      wpAny (model prog w) A (eval kx (compEnvC scope cl C env)) (fun key s₃ => (∃ t, key = .int (g (k, v)).1 t) ∧ Keeps s₂ s₃) E' s₂)
    (hval : ∀ C k v tk tv s₂ m₂ E', (k, v) ∈ c → s₂.heap.Ns C m₂ → m₂ xk = some (.int k tk) → m₂ xv = some (.int v tv) → (∀ b o, b ≠ I → s.heap.get? b = some o → s₂.heap.get? b = some o) →
      wpAny (model prog w) A (eval vx (compEnvC scope cl C env)) (fun y s₃ => (∃ t, y = .int (g (k, v)).2 t) ∧ Keeps s₂ s₃) E' s₂)
    (hRR : ∀ D C h' tk m' kvs', s.heap.objs.size ≤ D → s.heap.get? D = none → s.heap.get? C = none → D ≠ C → h'.Ns C m' → h'.DictOf (PySem.intKind prog w) D kvs' → FlatPairs PyData.int kvs' (kdfD (putAll [] (c.map g))) →
      (∀ b o, b ≠ I → s.heap.get? b = some o → h'.get? b = some o) → RR (.ref D) C (.ok .next) { s with heap := h', toks := tk }) :
    wpAny (model prog w) A newDict (fun acc s₃ => wpAny (model prog w) A (newFunctionEnv scope env.globals cl [] env.qual none .none (some env)) (fun cenv s₄ =>
      codeAny (model prog w) A (.compStart (.DictComp kx vx [⟨.Tuple [.Name xk pk, .Name xv pv] x1 pt, iter, [], 0⟩] scope pos) 0 (.ref I) acc { cenv with scope := relabel scope env }) (RR acc cenv.locals) s₄) E s₃) E s := by
  refine wpAny_newObj_type (wpAny_newFunctionEnv hcell (by intro y hy; simp at hy) (fun h₁ hns₁ hsb₁ => ?_) hkind)
  dsimp only at hns₁ hsb₁ ⊢
  have hnew : (s.heap.push { cls := .type "dict", dict := none, data := .dict #[] }).DictOf (PySem.intKind prog w) s.heap.objs.size [] := Heap.DictOf.new s.heap
  generalize hH2 : s.heap.push { cls := .type "dict", dict := none, data := .dict #[] } = H2 at hns₁ hsb₁ hnew ⊢
  have hC : H2.objs.size = s.heap.objs.size + 1 := by rw [← hH2, Heap.size_push]
  have hDC : s.heap.objs.size ≠ H2.objs.size := by rw [hC]; exact Nat.ne_of_lt (Nat.lt_succ_self _)
  have below : ∀ b, b < s.heap.objs.size → b ≠ H2.objs.size ∧ b ≠ s.heap.objs.size := fun b hb => ⟨by rw [hC]; exact Nat.ne_of_lt (Nat.lt_succ_of_lt hb), Nat.ne_of_lt hb⟩
  have old : ∀ b o, s.heap.get? b = some o → h₁.get? b = some o := fun b o e => hsb₁.extBut b o (below b (Heap.lt_size e)).1 (Heap.get?_push_of_some _ (hH2 ▸ Heap.get?_push_of_some _ e))
  have hacc : h₁.DictOf (PySem.intKind prog w) s.heap.objs.size [] := hnew.at fun o e => hsb₁.extBut _ _ hDC (Heap.get?_push_of_some _ e)
  have hIlt : I < s.heap.objs.size := Heap.lt_size hit
  have hdlt : d < s.heap.objs.size := hm.lt_size
  have fresh : ∀ a, s.heap.objs.size ≤ a → s.heap.get? a = none := fun a ha => by
    cases e : s.heap.get? a with
    | none => rfl
    | some o' => exact absurd (Heap.lt_size e) (Nat.not_lt.mpr ha)
  have lift : ∀ (h : Heap), (∀ b o, b ≠ (compEnvC scope cl H2.objs.size env).locals → b ≠ I → b ≠ s.heap.objs.size → h₁.get? b = some o → h.get? b = some o) → ∀ b o, b ≠ I → s.heap.get? b = some o → h.get? b = some o :=
    fun h hk b o hb e => hk b o (below b (Heap.lt_size e)).1 hb (below b (Heap.lt_size e)).2 (old b o e)
  have loop : ∀ s₃ : Shared, s₃ = { s with heap := h₁, toks := s.toks + ([] : List (Str × Value)).length } →
      codeAny (model prog w) A (.compLoop (.DictComp kx vx [⟨.Tuple [.Name xk pk, .Name xv pv] x1 pt, iter, [], 0⟩] scope pos) 0 (.ref I) (.ref s.heap.objs.size) (compEnvC scope cl H2.objs.size env))
        (RR (.ref s.heap.objs.size) H2.objs.size) s₃ := by
    rintro s₃ rfl
    refine compLoop_itemsD (cenv := compEnvC scope cl H2.objs.size env) g hh hne (lookup_relabel_local hxk) (lookup_relabel_local hxv) (by simp [compEnvC, relabel, hkind]) hDC (Nat.ne_of_gt hIlt) (Nat.ne_of_gt hdlt) (Ne.symm (below I hIlt).1) (Ne.symm (below d hdlt).1) hdI
      (old _ _ hit) (hm.at fun o e => old _ o e) hf hacc hns₁ hsz
      (fun k v tk tv s₂ m₂ E' hmem hn h1 h2 hk => hkey _ k v tk tv s₂ m₂ E' hmem hn h1 h2 (lift _ hk))
      (fun k v tk tv s₂ m₂ E' hmem hn h1 h2 hk => hval _ k v tk tv s₂ m₂ E' hmem hn h1 h2 (lift _ hk)) fun h' tk m' kvs' hn hd hf' hk => ?_
    exact hRR _ _ h' tk m' kvs' (Nat.le_refl _) (fresh _ (Nat.le_refl _)) (fresh _ (by rw [hC]; exact Nat.le_succ _)) hDC hn hd hf' (lift _ hk)
  exact codeAny_compStart_dict (loop _ rfl) (kcp_self (old _ _ hit) (loop _ rfl))

/-- what a dict comprehension over an int dict's items wants of its source and its element -/
structure ItemsSrc (prog : Program) (w : World) (A : Around) (env : Env) (scope : Scope) (cl : List (Str × Addr)) (xk xv : Str) (kx vx : Expr) (h₀ : Heap) (L : Addr) (m : Str → Option Value) (news : List (Addr × Obj)) (g : Int × Int → Int × Int) (c : List (Int × Int)) (v : Value) (s₁ : Shared) : Prop where
  big : h₀.NoLimit
  F : Fr h₀ L s₁.heap m
  N : News h₀ L s₁.heap news
  len : c.length ≤ 1000000
  src : ∃ vw d, v = .ref vw ∧ (∃ ov, s₁.heap.get? vw = some ov ∧ ov.cls = .type "dict_items" ∧ ov.data = .fields #[.ref d]) ∧ IntTab prog w s₁.heap d (kdfD c)
  key : ∀ C k v tk tv s₂ m₂ E', (k, v) ∈ c → s₂.heap.Ns C m₂ → m₂ xk = some (.int k tk) → m₂ xv = some (.int v tv) → (∀ b o, s₁.heap.get? b = some o → s₂.heap.get? b = some o) →
      wpAny (model prog w) A (eval kx (compEnvC scope cl C env)) (fun key s₃ => (∃ t, key = .int (g (k, v)).1 t) ∧ Keeps s₂ s₃) E' s₂
  val : ∀ C k v tk tv s₂ m₂ E', (k, v) ∈ c → s₂.heap.Ns C m₂ → m₂ xk = some (.int k tk) → m₂ xv = some (.int v tv) → (∀ b o, s₁.heap.get? b = some o → s₂.heap.get? b = some o) →
      wpAny (model prog w) A (eval vx (compEnvC scope cl C env)) (fun y s₃ => (∃ t, y = .int (g (k, v)).2 t) ∧ Keeps s₂ s₃) E' s₂

theorem DictComp_items {kx vx iter : Expr} {xk xv : Str} {pk pv pt : Pos} {x1 : Nat} {scope : Scope} {pos : Pos} {env : Env} {cl : List (Str × Addr)} {h₀ : Heap} {L : Addr} {Q : Value → Shared → Prop} (g : Int × Int → Int × Int)
    (hh : A.handled = none) (hclos : closureFor scope env = pure cl) (hcell : ∀ y ∈ scope.names, y.2 ≠ .cell) (hkind : scope.kind = .function)
    (hnames : ∀ y ∈ scope.names, y.2 = .local → scope.names.lookup y.1 = some .local) (hxk : scope.names.lookup xk = some .local) (hxv : scope.names.lookup xv = some .local) (hne : xk ≠ xv)
    (h : wpAny (model prog w) A (eval iter env) (fun v s₁ => ∃ m news c, ItemsSrc prog w A env scope cl xk xv kx vx h₀ L m news g c v s₁ ∧
      ∀ D o h' tk, Fr h₀ L h' m → News h₀ L h' ((D, o) :: news) → (∀ p ∈ news, p.1 < D) → (D == sysModules) = false → (∃ kvs, o.IsDictOf (PySem.intKind prog w) kvs ∧ FlatPairs PyData.int kvs (kdfD (putAll [] (c.map g)))) → Q (.ref D) { s₁ with heap := h', toks := tk }) E s)
    (hs : ∀ x, foldedSetIterable iter env x = pure x := by intro _; rfl) :
    wpAny (model prog w) A (eval (.DictComp kx vx [⟨.Tuple [.Name xk pk, .Name xv pv] x1 pt, iter, [], 0⟩] scope pos) env) Q E s := by
  rw [arm_eval_DictComp]
  refine wpAny_comprehension_free (use := none) rfl hs hclos hkind hnames (wpAny_mono h (fun xv s₁ h₁ => ?_) fun _ _ e => e)
  obtain ⟨m, news, c, ⟨big, F, N, hl, ⟨vw, d, rfl, hvw, T⟩, hk, hv⟩, hQ⟩ := h₁
  obtain ⟨lo, kvs, hdo, hf⟩ := T
  obtain ⟨ep, hat⟩ := hdo.dictAt
  have hne' : d ≠ s₁.heap.objs.size := Nat.ne_of_lt hat.lt_size
  have up : ∀ (h : Heap), (∀ b o, b ≠ s₁.heap.objs.size → (s₁.heap.push { cls := .type "dict_itemiterator", data := .fields #[.none, .bool false, .ref d, .int 0 0, .int kvs.length 0, .int ep 0, .none, .none] }).get? b = some o → h.get? b = some o) →
      ∀ b o, s₁.heap.get? b = some o → h.get? b = some o := fun h hk b o e => hk b o (Nat.ne_of_lt (Heap.lt_size e)) (Heap.get?_push_of_some _ e)
  refine wpAny_pyIter_items hvw hat ?_
  refine comp_block_itemsD (RR := fun acc C => compPost (model prog w) A E none Q acc C) g hh hne hcell hkind hxk hxv hne' (Heap.get?_push_size _ rfl) (hat.push _) hf hl
    (fun C k v tk tv s₂ m₂ E' hmem hn h1 h2 hk' => hk C k v tk tv s₂ m₂ E' hmem hn h1 h2 (up _ hk'))
    (fun C k v tk tv s₂ m₂ E' hmem hn h1 h2 hk' => hv C k v tk tv s₂ m₂ E' hmem hn h1 h2 (up _ hk')) ?_
  intro D C h' tk m' kvs' hle hD hC hDC hn hd' hf' hk'
  refine ⟨m', hn, fun h'' hs'' => ?_⟩
  have keep : ∀ b o, s₁.heap.get? b = some o → h''.get? b = some o := fun b o e =>
    hs''.extBut b o (by rintro rfl; rw [Heap.get?_push_of_some _ e] at hC; cases hC) (up h' hk' b o e)
  obtain ⟨o, ho, hod⟩ := Heap.dictOf_iff.mp (hd'.extBut hs''.extBut hDC)
  have hsz : s₁.heap.objs.size + 1 ≤ D := by
    have : (s₁.heap.push { cls := .type "dict_itemiterator", data := .fields #[.none, .bool false, .ref d, .int 0 0, .int kvs.length 0, .int ep 0, .none, .none] }).objs.size ≤ D := hle
    rwa [Heap.size_push] at this
  have hlt : ∀ b o, s₁.heap.get? b = some o → b < D := fun b o e => Nat.lt_of_lt_of_le (Nat.lt_succ_of_lt (Heap.lt_size e)) hsz
  have F' : Fr h₀ L h'' m := F.keeps keep
  have hLD : L < D := Nat.lt_of_lt_of_le (Nat.lt_succ_of_lt F.ns.lt) hsz
  refine hQ D o h'' tk F' (fun p hp => ?_) (fun p hp => hlt _ _ (N p hp).1) (beq_eq_false_iff_ne.mpr (Nat.ne_of_gt (Nat.lt_trans (modules_low big) (Nat.lt_of_le_of_lt F.above hLD)))) ⟨kvs', hod, hf'⟩
  rcases List.mem_cons.mp hp with rfl | hp
  · refine ⟨ho, Nat.ne_of_gt hLD, ?_⟩
    cases e : h₀.get? D with
    | none => rfl
    | some o' => exact absurd (hlt _ _ (F.keep _ _ e)) (Nat.lt_irrefl _)
  · exact (N.grown keep) p hp

theorem Assign_DictComp_items {kx vx iter : Expr} {xk xv y : Str} {pk pv pt py : Pos} {x1 : Nat} {scope : Scope} {pos spos : Pos} {env : Env} {cl : List (Str × Addr)} {h₀ : Heap} {Q : Flow → Shared → Prop} (g : Int × Int → Int × Int)
    (hsw : swapsWith (.DictComp kx vx [⟨.Tuple [.Name xk pk, .Name xv pv] x1 pt, iter, [], 0⟩] scope pos) (some (.Name y py)) spos.line env = pure true)
    (hh : A.handled = none) (hclos : closureFor scope env = pure cl) (hcell : ∀ y ∈ scope.names, y.2 ≠ .cell) (hkind : scope.kind = .function)
    (hnames : ∀ y ∈ scope.names, y.2 = .local → scope.names.lookup y.1 = some .local) (hxk : scope.names.lookup xk = some .local) (hxv : scope.names.lookup xv = some .local) (hne : xk ≠ xv)
    (hy : env.kindOf y = some .local) (hp : (env.scope.kind == .class || (env.scope.kind == .module && env.locals != env.globals)) = false)
    (h : wpAny (model prog w) A (eval iter env) (fun v s₁ => ∃ m news c, ItemsSrc prog w A env scope cl xk xv kx vx h₀ env.locals m news g c v s₁ ∧
      ∀ D o h' tk, Fr h₀ env.locals h' (fun z => if z = y then some (.ref D) else m z) → News h₀ env.locals h' ((D, o) :: news) → (∀ p ∈ news, p.1 < D) → (D == sysModules) = false → (∃ kvs, o.IsDictOf (PySem.intKind prog w) kvs ∧ FlatPairs PyData.int kvs (kdfD (putAll [] (c.map g)))) → Q .next { s₁ with heap := h', toks := tk }) E s)
    (hs : ∀ x, foldedSetIterable iter env x = pure x := by intro _; rfl) :
    wpAny (model prog w) A (exec (.Assign [.Name y py] (.DictComp kx vx [⟨.Tuple [.Name xk pk, .Name xv pv] x1 pt, iter, [], 0⟩] scope pos) spos) env) Q E s := by
  rw [exec_Assign_Name_used _ _ _ _ hsw]
  refine wpAny_bind (wpAny_standAt (wpAny_bind ?_))
  show wpAny _ A (do let _ ← comprehension (.DictComp kx vx [⟨.Tuple [.Name xk pk, .Name xv pv] x1 pt, iter, [], 0⟩] scope pos) scope env _ newDict false (eval iter env) (some (assign (.Name y py) env))) _ _ s
  refine wpAny_bind (wpAny_mono (wpAny_comprehension_free (use := some (assign (.Name y py) env)) (Q := fun _ s' => Q .next s') rfl hs hclos hkind hnames
    (wpAny_mono h (fun xv s₁ h₁ => ?_) fun _ _ e => e)) (fun _ s' hq => wpAny_pure (wpAny_pure hq)) fun _ _ e => e)
  obtain ⟨m, news, c, ⟨big, F, N, hl, ⟨vw, d, rfl, hvw, T⟩, hk, hv⟩, hQ⟩ := h₁
  obtain ⟨lo, kvs, hdo, hf⟩ := T
  obtain ⟨ep, hat⟩ := hdo.dictAt
  have hne' : d ≠ s₁.heap.objs.size := Nat.ne_of_lt hat.lt_size
  have up : ∀ (h : Heap), (∀ b o, b ≠ s₁.heap.objs.size → (s₁.heap.push { cls := .type "dict_itemiterator", data := .fields #[.none, .bool false, .ref d, .int 0 0, .int kvs.length 0, .int ep 0, .none, .none] }).get? b = some o → h.get? b = some o) →
      ∀ b o, s₁.heap.get? b = some o → h.get? b = some o := fun h hk b o e => hk b o (Nat.ne_of_lt (Heap.lt_size e)) (Heap.get?_push_of_some _ e)
  refine wpAny_pyIter_items hvw hat ?_
  refine comp_block_itemsD (RR := fun acc C => compPost (model prog w) A E (some (assign (.Name y py) env)) (fun _ s' => Q .next s') acc C) g hh hne hcell hkind hxk hxv hne' (Heap.get?_push_size _ rfl) (hat.push _) hf hl
    (fun C k v tk tv s₂ m₂ E' hmem hn h1 h2 hk' => hk C k v tk tv s₂ m₂ E' hmem hn h1 h2 (up _ hk'))
    (fun C k v tk tv s₂ m₂ E' hmem hn h1 h2 hk' => hv C k v tk tv s₂ m₂ E' hmem hn h1 h2 (up _ hk')) ?_
  intro D C h' tk m' kvs' hle hD hC hDC hn hd' hf' hk'
  have hsz : s₁.heap.objs.size + 1 ≤ D := by
    have : (s₁.heap.push { cls := .type "dict_itemiterator", data := .fields #[.none, .bool false, .ref d, .int 0 0, .int kvs.length 0, .int ep 0, .none, .none] }).objs.size ≤ D := hle
    rwa [Heap.size_push] at this
  have hlt : ∀ b o, s₁.heap.get? b = some o → b < D := fun b o e => Nat.lt_of_lt_of_le (Nat.lt_succ_of_lt (Heap.lt_size e)) hsz
  have hLD : env.locals < D := Nat.lt_of_lt_of_le (Nat.lt_succ_of_lt F.ns.lt) hsz
  have hLC : env.locals ≠ C := by
    rintro e
    obtain ⟨o, _, _, ho, _⟩ := F.ns
    rw [e] at ho
    rw [Heap.get?_push_of_some _ ho] at hC; cases hC
  show wpAny _ A (assign (.Name y py) env (.ref D)) _ _ _
  refine wpAny_assign_Name (wpAny_storeName_local hy (F.ns.at' fun o e => up h' hk' _ o e) (fun h₂ hn₂ hs₂ => ?_) hp)
  replace hs₂ : Heap.SameBut env.locals h' h₂ := hs₂
  refine ⟨m', hn.sameBut hs₂ (Ne.symm hLC), fun h₃ hs₃ => ?_⟩
  replace hs₃ : Heap.SameBut C h₂ h₃ := hs₃
  have keep : ∀ b o, b ≠ env.locals → s₁.heap.get? b = some o → h₃.get? b = some o := fun b o hb e =>
    hs₃.extBut b o (by rintro rfl; rw [Heap.get?_push_of_some _ e] at hC; cases hC) (hs₂.extBut b o hb (up h' hk' b o e))
  obtain ⟨o, ho, hod⟩ := Heap.dictOf_iff.mp ((hd'.extBut hs₂.extBut (Nat.ne_of_gt hLD)).extBut hs₃.extBut hDC)
  refine hQ D o h₃ _ ⟨hn₂.sameBut hs₃ hLC, fun b o e => keep b o (Nat.ne_of_lt (Nat.lt_of_lt_of_le (Heap.lt_size e) F.above)) (F.keep b o e), F.above⟩ (fun p hp => ?_) (fun p hp => hlt _ _ (N p hp).1)
    (beq_eq_false_iff_ne.mpr (Nat.ne_of_gt (Nat.lt_trans (modules_low big) (Nat.lt_of_le_of_lt F.above hLD)))) ⟨kvs', hod, hf'⟩
  rcases List.mem_cons.mp hp with rfl | hp
  · refine ⟨ho, Nat.ne_of_gt hLD, ?_⟩
    cases e : h₀.get? D with
    | none => rfl
    | some o' => exact absurd (hlt _ _ (F.keep _ _ e)) (Nat.lt_irrefl _)
  · exact ⟨keep _ _ (N p hp).2.1 (N p hp).1, (N p hp).2⟩
end
end Mine
end
section
open PySem PySem.W PyProof.Rows PySem.Calls PySem.Spec PyProof.V
set_option maxRecDepth 100000
set_option maxHeartbeats 8000000
namespace Mine
local macro_rules | `(tactic| walk_at $s:str) => `(tactic| k_extra $s)
@[irreducible] def rp (x p r : Str) : Str := Txt.join r (Txt.split x p)
@[irreducible] def Sm (x p r : Str) : Prop := ((Txt.split x p).map (·.length)).sum + (Txt.split x p).length * r.length ≤ 16777216
theorem join_split {prog : Program} {w : World} {A : Around} {E : Value → Shared → Prop} {s : Shared} {x p r : Str} {t : Tok} {Q : Value → Shared → Prop} {D : Addr} {l : List (Str × Tok)} (hl : s.heap.IsList D (strValues l).toArray) (e : l.map (·.1) = Txt.split x p) (hs : Sm x p r)
    (h : ∀ t' k, Q (.str (rp x p r) t') { s with toks := k }) : wpAny (model prog w) A (call (.builtin "str.join") [.str r t, .ref D]) Q E s := by
  unfold Sm at hs
  unfold rp at h
  exact SC.join hl e (joinOk_of hs) h

local macro_rules | `(tactic| k_mem) => `(tactic| assumption)
set_option pp.deepTerms false in
set_option pp.deepTerms.threshold 6 in
set_option pp.maxSteps 20000 in
theorem rep1_spec {w : World} {loose : List Str} {mean : ExcName → Option Value} {mg mb : Str → Option Value}
  (dp un : Nat) (gd : Option (List Code)) (cn : Str) (cs : Scope) (a : Addr) (ccd : Value) (cl : List (Str × Addr)) (outer : List Env) (A₀ : Around) (base h₀ : Heap) (L : Addr) (m : Str → Option Value) (news : List (Addr × Obj)) (s : Shared) (Q E : Value → Shared → Prop)
  (B : Below A₀ base outer h₀) (F : Fr h₀ L s.heap m) (X : (frag.heap_1 w.params).In h₀) (N : News h₀ L s.heap news) (T : Top topProg loose mean mg mb h₀) (hk : cs.kind = .function)
  (hd : dp + 8 < recursionLimit) (hun : un + 64 < cLine) (t0 t1 t2 : Tok) (x : Str) (hx : x.length ≤ 64) (hs1 : Sm x (Str.ofString "o") (Str.ofString ""))
  (hret : ∀ t h' tk', Fr h₀ L h' m → News h₀ L h' news → Q (.str (rp x (Str.ofString "o") (Str.ofString "")) t) { s with heap := h', toks := tk' }) :
  wpAny (model PySem.Challenge.rw_qc0004_01.row.prog w) (ktrTop dp un gd cn cs L a ccd cl outer) (call (.ref 77) [.str x t0, .str (Str.ofString "o") t1, .str (Str.ofString "") t2]) Q E s := by
  w_strict (
    w_top off
    k_with_none
    k_with "execs cons" => (k_here; (rename Fr _ _ _ _ => lF'); (fail_if_success (with_reducible have h9 : Fr _ _ _ m9 := lF')); k_dflt (refine (let m9 : Str → Option Value := _; have F9 : Fr _ _ _ m9 := lF'; ?_)); clear lF')
    k_with "execs cons" => (k_here; (fail_if_success (with_reducible show wpAny _ _ _ Q9 _ _)); k_dflt (refine (let Q9 : Flow → Shared → Prop := _; let E9 : Value → Shared → Prop := _; (show wpAny _ _ (execs _ _) Q9 E9 _ from ?_))))
    k_with "exec While Name cons nil" => ((k_dflt (refine whl_start 100 ?_)))
    k_with "call builtin:str.join" => ((refine join_split (by assumption) (by assumption) (by assumption) ?_; intro tj kj))
    k_with "subscriptTail Name Slice ref ref" => ((k_here; (rename Fr _ _ _ _ => lF'); (rename News _ _ _ _ => lN'); (with_unfolding_all refine slice_tuple_from (a := 2) lF' lN' (News.isTup lN' (by k_mem)) (by decide) (Nat.le_of_ble_eq_true rfl) ?_ (hsz := by rw [sizeLine_eq]; exact Nat.le_of_ble_eq_true rfl)); intro h' F' N'; (try dsimp only at N')))
    k_with "my.rest" => (k_dflt (refine kp_rest (by k_asm) (by k_asm) (by k_asm) (by k_asm) (by k_asm) (by exact rfl) (by exact rfl) (by assumption) (by k_is) (by k_is) (by ktr_room) (by kl_lit) (by exact rfl) (by exact fun _ => rfl) (by exact fun _ => locs rfl) ?_ (by exact rfl) (by exact rfl) (by exact rfl) (by decide); k_whole; intro D' g' L' h' l1 FG' F' N' B' X' T'; (try k_lt l1); (try dsimp only); (try k_fold)))
    revert X; k_fill; intro X
    refine wpAny_call ?_
    walk_at "my.rest"
    k_steps
    exact hret _ _ _ (by k_asm) (cb_drop (by assumption) fun p hp => .tail _ (.tail _ (.tail _ hp))))
set_option pp.deepTerms false in
set_option pp.deepTerms.threshold 6 in
set_option pp.maxSteps 20000 in
theorem rep8_spec {w : World} {loose : List Str} {mean : ExcName → Option Value} {mg mb : Str → Option Value}
  (dp un : Nat) (gd : Option (List Code)) (cn : Str) (cs : Scope) (a : Addr) (ccd : Value) (cl : List (Str × Addr)) (outer : List Env) (A₀ : Around) (base h₀ : Heap) (L : Addr) (m : Str → Option Value) (news : List (Addr × Obj)) (s : Shared) (Q E : Value → Shared → Prop)
  (B : Below A₀ base outer h₀) (F : Fr h₀ L s.heap m) (X : (frag.heap_1 w.params).In h₀) (N : News h₀ L s.heap news) (T : Top topProg loose mean mg mb h₀) (hk : cs.kind = .function)
  (hd : dp + 8 < recursionLimit) (hun : un + 64 < cLine) (t0 t1 t2 t3 t4 t5 t6 t7 t8 : Tok) (x : Str) (hx : x.length ≤ 64) (hs1 : Sm x (Str.ofString "efe") (Str.ofString "e")) (hl1 : (rp x (Str.ofString "efe") (Str.ofString "e")).length ≤ 64) (hs2 : Sm (rp x (Str.ofString "efe") (Str.ofString "e")) (Str.ofString "fef") (Str.ofString "f")) (hl2 : (rp (rp x (Str.ofString "efe") (Str.ofString "e")) (Str.ofString "fef") (Str.ofString "f")).length ≤ 64) (hs3 : Sm (rp (rp x (Str.ofString "efe") (Str.ofString "e")) (Str.ofString "fef") (Str.ofString "f")) (Str.ofString "ee") (Str.ofString "oe")) (hl3 : (rp (rp (rp x (Str.ofString "efe") (Str.ofString "e")) (Str.ofString "fef") (Str.ofString "f")) (Str.ofString "ee") (Str.ofString "oe")).length ≤ 64) (hs4 : Sm (rp (rp (rp x (Str.ofString "efe") (Str.ofString "e")) (Str.ofString "fef") (Str.ofString "f")) (Str.ofString "ee") (Str.ofString "oe")) (Str.ofString "ff") (Str.ofString "of"))
  (hret : ∀ t h' tk', Fr h₀ L h' m → News h₀ L h' news → Q (.str (rp (rp (rp (rp x (Str.ofString "efe") (Str.ofString "e")) (Str.ofString "fef") (Str.ofString "f")) (Str.ofString "ee") (Str.ofString "oe")) (Str.ofString "ff") (Str.ofString "of")) t) { s with heap := h', toks := tk' }) :
  wpAny (model PySem.Challenge.rw_qc0004_01.row.prog w) (ktrTop dp un gd cn cs L a ccd cl outer) (call (.ref 77) [.str x t0, .str (Str.ofString "efe") t1, .str (Str.ofString "e") t2, .str (Str.ofString "fef") t3, .str (Str.ofString "f") t4, .str (Str.ofString "ee") t5, .str (Str.ofString "oe") t6, .str (Str.ofString "ff") t7, .str (Str.ofString "of") t8]) Q E s := by
  w_strict (
    w_top off
    k_with_none
    k_with "execs cons" => (k_here; (rename Fr _ _ _ _ => lF'); (fail_if_success (with_reducible have h9 : Fr _ _ _ m9 := lF')); k_dflt (refine (let m9 : Str → Option Value := _; have F9 : Fr _ _ _ m9 := lF'; ?_)); clear lF')
    k_with "execs cons" => (k_here; (fail_if_success (with_reducible show wpAny _ _ _ Q9 _ _)); k_dflt (refine (let Q9 : Flow → Shared → Prop := _; let E9 : Value → Shared → Prop := _; (show wpAny _ _ (execs _ _) Q9 E9 _ from ?_))))
    k_with "exec While Name cons nil" => ((k_dflt (refine whl_start 100 ?_)))
    k_with "call builtin:str.join" => ((refine join_split (by assumption) (by assumption) (by assumption) ?_; intro tj kj))
    k_with "subscriptTail Name Slice ref ref" => ((k_here; (rename Fr _ _ _ _ => lF'); (rename News _ _ _ _ => lN'); (with_unfolding_all refine slice_tuple_from (a := 2) lF' lN' (News.isTup lN' (by k_mem)) (by decide) (Nat.le_of_ble_eq_true rfl) ?_ (hsz := by rw [sizeLine_eq]; exact Nat.le_of_ble_eq_true rfl)); intro h' F' N'; (try dsimp only at N')))
    k_with "my.rest" => (k_dflt (refine kp_rest (by k_asm) (by k_asm) (by k_asm) (by k_asm) (by k_asm) (by exact rfl) (by exact rfl) (by assumption) (by k_is) (by k_is) (by ktr_room) (by kl_lit) (by exact rfl) (by exact fun _ => rfl) (by exact fun _ => locs rfl) ?_ (by exact rfl) (by exact rfl) (by exact rfl) (by decide); k_whole; intro D' g' L' h' l1 FG' F' N' B' X' T'; (try k_lt l1); (try dsimp only); (try k_fold)))
    revert X; k_fill; intro X
    refine wpAny_call ?_
    walk_at "my.rest"
    k_steps
    all_goals trace_state
    exact hret _ _ _ (by k_asm) (cb_drop (by assumption) fun p hp => .tail _ (.tail _ (.tail _ (.tail _ (.tail _ (.tail _ (.tail _ (.tail _ (.tail _ hp))))))))))
end Mine
end
section
open PySem PySem.W PyProof.Rows PySem.Calls PySem.Spec PyProof.V
set_option maxRecDepth 100000
namespace Mine
section
variable {prog : Program} {w : World} {A : Around} {E : Value → Shared → Prop} {s : Shared} {env : Env} {h₀ : Heap} {body : List Stmt} {Q : Flow → Shared → Prop}

def signItm (c : Nat) : Itm := .tok fun t => Value.str ⟨#[c]⟩ t

theorem iter_asciiTurns {x : Str} {px : Pos} {tx : Str} {t : Tok} {m₀ : Str → Option Value} {news : List (Addr × Obj)} (ha : tx.cps.all (· < 128) = true)
    (hh : A.handled = none) (F : Fr h₀ env.locals s.heap m₀) (N : News h₀ env.locals s.heap news)
    (rest₀ : ∀ I : Addr, (∀ p ∈ news, p.1 < I) → ItemsRest prog w A E h₀ env (.Name x px) body Q s [(I, "str_ascii_iterator")] [] (tx.cps.toList.map signItm) m₀ news) :
    wpAny (model prog w) A (pyIter (.str tx t)) (fun it s₂ => TurnsAt prog w A h₀ env (.Name x px) body Q E it s₂) E s := by
  refine wpAny_pyIter_ascii ha ?_
  refine ktu_core (tk0 := s.toks) (keep := []) (KTurns.ofWalks (Walks.strAscii hh s.heap.objs.size tx t) fun i v s Q E st q => wpAny_pure q) (by simp) (fun i v h hp => ?_) (fun i h st => ?_) (fun b hb => ?_) (fun b hb => by simpa using hb) (fun b hb => ?_) ?_ (fun p hp hI => ?_) ?_ (F.push _) (fun p hp => ⟨Heap.get?_push_of_some _ (N p hp).1, (N p hp).2⟩) trivial (rest₀ _ fun p hp => Heap.lt_size (N p hp).1)
  · obtain ⟨c, u, hc, rfl⟩ := hp
    refine ⟨signItm c, ?_, u, rfl⟩
    simp [hc]
  · obtain ⟨it, hit, hic, _⟩ := st
    exact ⟨[(s.heap.objs.size, it)], ⟨⟨rfl, hic⟩, trivial⟩, fun p hp => by rw [List.mem_singleton.mp hp]; exact hit⟩
  · have hb' : b = s.heap.objs.size := by simpa using hb
    rw [hb']
    exact ⟨List.mem_cons_self .., next_is_new F⟩
  · exact .inl (by simpa using hb)
  · intro hI
    exact absurd F.ns.lt ((List.mem_singleton.mp hI) ▸ Nat.lt_irrefl _)
  · exact absurd (Heap.lt_size (N p hp).1) ((List.mem_singleton.mp hI) ▸ Nat.lt_irrefl _)
  · exact ⟨_, Heap.get?_push_size _ rfl, rfl, rfl⟩

def rangeItm (i : Nat) : Itm := .tok fun t => Value.int (i : Int) t

theorem iter_rangeTurns {x : Str} {px : Pos} {r : Addr} {n : Nat} {t u v : Tok} {m₀ : Str → Option Value} {news : List (Addr × Obj)} (hn : n ≤ 1000000) (hr : IsRange s.heap r 0 n 1 t u v)
    (hh : A.handled = none) (F : Fr h₀ env.locals s.heap m₀) (N : News h₀ env.locals s.heap news)
    (rest₀ : ∀ I : Addr, (∀ p ∈ news, p.1 < I) → ItemsRest prog w A E h₀ env (.Name x px) body Q s [(I, "range_iterator")] [] ((List.range n).map rangeItm) m₀ news) :
    wpAny (model prog w) A (pyIter (.ref r)) (fun it s₂ => TurnsAt prog w A h₀ env (.Name x px) body Q E it s₂) E s := by
  have hsm : Builtin.Range.small 0 (n : Int) 1 = true := small_one (by decide) (by decide) (by omega) (by omega)
  have hrs : Builtin.Range.rangeSize 0 (n : Int) 1 = (n : Int) := by rw [rangeSize_nat]; simp
  have W₀ := Walks.range (prog := prog) (w := w) hh s.heap.objs.size 0 1 n
  have W : Walks prog w A s.heap.objs.size [s.heap.objs.size] [s.heap.objs.size] n (fun i v => i < n ∧ ∃ t, v = .int (0 + (i : Nat) * 1) t) (fun i h => IsRangeIter h s.heap.objs.size (0 + (i : Nat) * 1) ((n : Int) - (i : Nat)) 1) :=
    ⟨W₀.sub, W₀.frame, fun i s Q E hi st hQ => W₀.item i s Q E hi st fun v h' tk hP st' hk => hQ v h' tk ⟨hi, hP⟩ st' hk, W₀.done, W₀.self⟩
  refine wpAny_pyIter_range hr hsm ?_
  rw [hrs]
  refine ktu_core (tk0 := s.toks) (keep := []) (KTurns.ofWalks W fun i v s Q E st q => wpAny_pure q) (by simp) (fun i v h hp => ?_) (fun i h st => ?_) (fun b hb => ?_) (fun b hb => by simpa using hb) (fun b hb => ?_) ?_ (fun p hp hI => ?_) ?_ (F.push _) (fun p hp => ⟨Heap.get?_push_of_some _ (N p hp).1, (N p hp).2⟩) trivial (rest₀ _ fun p hp => Heap.lt_size (N p hp).1)
  · obtain ⟨hi, t, rfl⟩ := hp
    refine ⟨rangeItm i, by simp [hi], t, ?_⟩
    simp
  · exact ⟨[(s.heap.objs.size, _)], ⟨⟨rfl, rfl⟩, trivial⟩, fun p hp => by rw [List.mem_singleton.mp hp]; exact st⟩
  · have hb' : b = s.heap.objs.size := by simpa using hb
    rw [hb']
    exact ⟨List.mem_cons_self .., next_is_new F⟩
  · exact .inl (by simpa using hb)
  · intro hI
    exact absurd F.ns.lt ((List.mem_singleton.mp hI) ▸ Nat.lt_irrefl _)
  · exact absurd (Heap.lt_size (N p hp).1) ((List.mem_singleton.mp hI) ▸ Nat.lt_irrefl _)
  · have := Heap.get?_push_size s.heap (o := { cls := .type "range_iterator", data := .fields #[rawInt 0, rawInt (n : Int), rawInt 1] }) rfl
    simpa [IsRangeIter] using this
end

/-- every address of the list lies under the bound -/
def NB (l : List (Addr × Obj)) (b : Nat) : Prop := ∀ p ∈ l, p.1 < b
theorem NB.at {l : List (Addr × Obj)} {b : Nat} {p : Addr × Obj} (h : NB l b) (hp : p ∈ l) : @LT.lt Nat _ p.1 b := h p hp

section
variable {prog : Program} {w : World} {A : Around} {E : Value → Shared → Prop} {s : Shared} {h₀ : Heap} {L : Addr} {m : Str → Option Value} {Q : Value → Shared → Prop}
theorem list_str_K {x : Str} {t : Tok} {news : List (Addr × Obj)} (hh : A.handled = none) (F : Fr h₀ L s.heap m) (N : News h₀ L s.heap news)
    (hQ : ∀ D h' tk (ys : List Value) c, Fr h₀ L h' m → News h₀ L h' ((D, listOf ys.toArray c) :: news) → (∀ p ∈ news, p.1 < D) → StrsAre ys (signs x) → Q (.ref D) { s with heap := h', toks := tk }) (hsz : x.length ≤ sizeLine := by size_fits) :
    wpAny (model prog w) A (call (.type "list") [.str x t]) Q E s := by
  refine call_list_str hh x t (hn := hsz) fun h' tk acc' c' hk hS' hacc => ?_
  refine hQ s.heap.objs.size h' tk acc'.toList c' (F.keeps hk) (fun p hp => ?_) (fun p hp => Heap.lt_size (N p hp).1) ?_
  · rcases List.mem_cons.mp hp with rfl | hp
    · refine ⟨by simpa using hS', Nat.ne_of_gt F.ns.lt, ?_⟩
      cases e : h₀.get? s.heap.objs.size with
      | none => rfl
      | some o => exact absurd (Heap.lt_size (F.keep _ _ e)) (Nat.lt_irrefl _)
    · exact ⟨hk _ _ (N p hp).1, (N p hp).2⟩
  · obtain ⟨hl, hv⟩ := hacc
    have gen : ∀ (vs : List Value) (cs : List Nat), vs.length = cs.length → (∀ (j : Nat) v, vs[j]? = some v → ∃ c u, cs[j]? = some c ∧ v = Value.str ⟨#[c]⟩ u) → StrsAre vs (cs.map fun n => (⟨#[n]⟩ : Str)) := by
      intro vs
      induction vs with
      | nil => intro cs hl _; cases cs with
        | nil => exact .nil
        | cons => simp at hl
      | cons v vs ih =>
        intro cs hl hv
        cases cs with
        | nil => simp at hl
        | cons c cs =>
          obtain ⟨c', u, hc, rfl⟩ := hv 0 v (by simp)
          simp at hc
          subst hc
          exact .cons _ _ (ih cs (by simpa using hl) fun j v hj => by
            obtain ⟨c', u, hc, e⟩ := hv (j + 1) v (by simpa using hj)
            exact ⟨c', u, by simpa using hc, e⟩)
    refine gen acc'.toList x.cps.toList (by simpa using hl) fun j v hj => ?_
    obtain ⟨c, u, hc, e⟩ := hv j v (by simpa using hj)
    exact ⟨c, u, by simpa using hc, e⟩
end
end Mine
end
section
open PySem PySem.W PyProof.Rows PySem.Calls PySem.Spec PyProof.V
open PySem.Builtin.ObjectAttr
set_option maxRecDepth 100000
namespace Mine
theorem slot_fn_sa : Slot "function" "__setattr__" "object.__setattr__" :=
  .of (owner := "object") (n := "__setattr__") (by rw [typeLookup_type, builtinLookup_eq_fast]; kernel_rfl) (by decide +kernel) (by decide +kernel) (by decide +kernel)
    (by first | exact .inl (by decide +kernel) | exact .inr (by decide +kernel)) (by rw [isSubtype_type]; kernel_rfl)
theorem slot_fn_ga : Slot "function" "__getattribute__" "object.__getattribute__" :=
  .of (owner := "object") (n := "__getattribute__") (by rw [typeLookup_type, builtinLookup_eq_fast]; kernel_rfl) (by decide +kernel) (by decide +kernel) (by decide +kernel)
    (by first | exact .inl (by decide +kernel) | exact .inr (by decide +kernel)) (by rw [isSubtype_type]; kernel_rfl)
theorem entry_oga : entryFor table "object.__getattribute__" = some Builtin.«object.__getattribute__» := entryFor_of_tree (by kernel_rfl)
theorem args_osa (a b c : Value) : argsOk "object.__setattr__" ⟨[a, b, c], []⟩ := by unfold argsOk; kernel_rfl
theorem args_oga (a b : Value) : argsOk "object.__getattribute__" ⟨[a, b], []⟩ := by unfold argsOk; kernel_rfl
theorem fn_none : typeLookup (.type "function") "read" = pure none := by rw [typeLookup_type, builtinLookup_eq_fast]; kernel_rfl
theorem fn_nohook : typeLookup (.type "function") "__getattr__" = pure none := by rw [typeLookup_type, builtinLookup_eq_fast]; kernel_rfl
theorem fn_mro : mroOf (.type "function") = pure [.type "function", .type "object"] := by kernel_rfl
theorem fn_passes (self : Value) : refuseLoop self "__setattr__" [.type "function", .type "object"] = pure () := by
  have := PySem.F.store_object.passes self
  kernel_rfl

section
variable {prog : Program} {w : World} {A : Around} {E : Value → Shared → Prop} {s : Shared} {h₀ : Heap} {L : Addr} {m : Str → Option Value} {news : List (Addr × Obj)} {g : Obj → List (Addr × Obj)}

theorem setAttr_fn {f : Addr} {fd : FuncData} {name : Str} {v : Value} {Q : Unit → Shared → Prop} (hl : typeLookup (.type "function") name = pure none)
    (F : Fr h₀ L s.heap m) (N : News h₀ L s.heap news) (U : UpdF f { cls := .type "function", data := .func fd } news g)
    (h : ∀ dx t h' tk, Fr h₀ L h' m → News h₀ L h' ((dx, dictOf [⟨PyData.keyHash w.params name, .str name t, v⟩] 1) :: g { cls := .type "function", dict := some dx, data := .func fd }) → (∀ p ∈ news, p.1 < dx) → Q () { s with heap := h', toks := tk }) :
    wpAny (model prog w) A (setAttr (.ref f) name v) Q E s := by
  obtain ⟨pre, post, rfl, hg, h1, h2⟩ := U.split
  have hf := (N (f, { cls := .type "function", data := .func fd }) (by simp)).1
  unfold setAttr
  refine wpAny_bind (wpAny_mkText ?_)
  have hT : ({ s with toks := s.toks + 1 } : Shared).TypeIs (.ref f) "function" := ⟨_, hf, rfl⟩
  refine wpAny_bind (wpAny_callSpecial?_slot hT slot_fn_sa (wpAny_call_entry slot_fn_sa hT PySem.F.store_object.entry ?_ (args_osa _ _ _)))
  rw [osa_eq, refuse_eq]
  refine wpAny_bind (wpAny_bind (wpAny_typeOf hT (wpAny_bind (wpAny_of_eq fn_mro (wpAny_of_eq (fn_passes _) ?_)))))
  refine wpAny_bind (wpAny_typeOf hT (wpAny_bind (wpAny_of_eq hl (wpAny_bind (wpAny_pure ?_)))))
  show wpAny _ _ (storeInOwnDict (.ref f) (.type "function") (.str name s.toks) name v false) _ _ _
  unfold storeInOwnDict
  refine wpAny_bind (wpAny_pure ?_)
  rw [if_neg (by decide)]
  refine wpAny_bind ?_
  show wpAny _ _ (instanceDict f true) _ _ _
  unfold instanceDict
  refine wpAny_bind (wpAny_loadPart hf ?_)
  refine (show wpAny _ _ (alloc { cls := .type "dict", data := .dict #[] } >>= fun d => update f (fun o => { o with dict := some d }) >>= fun _ => dictMade (.type "function") f d) _ _ _ from ?_)
  refine wpAny_bind (wpAny_alloc ?_)
  have F1 := F.push { cls := .type "dict", data := .dict #[] }
  have N1 := N.push F { cls := .type "dict", data := .dict #[] }
  have hlt : ∀ p ∈ pre ++ (f, ({ cls := .type "function", data := .func fd } : Obj)) :: post, p.1 < s.heap.objs.size := fun p hp => Heap.lt_size (N p hp).1
  have hff : f < s.heap.objs.size := Heap.lt_size hf
  have hf1 : (s.heap.push { cls := .type "dict", data := .dict #[] }).get? f = some { cls := .type "function", data := .func fd } := Heap.get?_push_of_some _ hf
  refine wpAny_bind (wpAny_update hf1 ?_)
  obtain ⟨F2, N2⟩ := news_upd (pre := (s.heap.objs.size, { cls := .type "dict", data := .dict #[] }) :: pre) (o' := { cls := .type "function", dict := some s.heap.objs.size, data := .func fd }) (f := fun o => { o with dict := some s.heap.objs.size }) F1 N1
    (fun p hp => by rcases List.mem_cons.mp hp with rfl | hp; exact Nat.ne_of_gt hff; exact h1 p hp) h2 rfl rfl
  refine (show wpAny _ _ (pure (some s.heap.objs.size)) _ _ _ from wpAny_pure ?_)
  show wpAny _ _ (storeInDict s.heap.objs.size (.str name s.toks) name v) _ _ _
  unfold storeInDict newKeyGuard
  refine wpAny_bind (wpAny_pure (wpAny_bind (kp_nsSet (es := []) (n := 0) F2 N2 (fun p hp => ?_) (fun e he => nomatch he) (fun e he => nomatch he) fun h' F3 N3 => ?_)))
  · rcases List.mem_append.mp hp with hp | hp
    · exact Nat.ne_of_lt (hlt p (List.mem_append_left _ hp))
    · rcases List.mem_cons.mp hp with rfl | hp
      · exact Nat.ne_of_lt hff
      · exact Nat.ne_of_lt (hlt p (List.mem_append_right _ (.tail _ hp)))
  · refine wpAny_bind (wpAny_lookBehind (N3 _ (.head _)).1 (pastItsLine_dict (by rw [sizeLine_eq]; exact Nat.le_of_ble_eq_true rfl)) ?_)
    exact wpAny_pure ⟨_, rfl, wpAny_pure (h _ _ h' _ F3 (by rw [hg]; exact N3) hlt)⟩

/-- an attribute of a function object's own dict, as a method call reads it -/
theorem getMethod_fn {f dx : Addr} {fd : FuncData} {name : Str} {v : Value} {es : List DictEntry} {n : Nat} {pl : Sem Bool} {Q : Value × List Value → Shared → Prop} (hl : typeLookup (.type "function") name = pure none)
    (N : News h₀ L s.heap news) (hf : (f, ({ cls := .type "function", dict := some dx, data := .func fd } : Obj)) ∈ news) (hd : (dx, dictOf es n) ∈ news) (hv : getL name es = some (some v)) (hb : handedIn v = true)
    (h : ∀ tk, Q (v, []) { s with toks := tk }) : wpAny (model prog w) A (getMethod (.ref f) name pl) Q E s := by
  have hF := (N _ hf).1
  have hD := (N _ hd).1
  have hT : s.TypeIs (.ref f) "function" := ⟨_, hF, rfl⟩
  unfold getMethod
  refine wpAny_bind (wpAny_specialOf hT slot_fn_ga.lookup ?_)
  dsimp only
  rw [PySem.F.canon_object_ga, if_neg (by decide)]
  refine wpAny_bind (wpAny_specialOf hT fn_nohook ?_)
  refine wpAny_bind (wpAny_specialOf hT hl ?_)
  refine (show wpAny _ _ (getAttr (.ref f) name >>= fun r => pure (r, [])) _ _ _ from ?_)
  unfold getAttr
  refine wpAny_bind (wpAny_bind (wpAny_mkText ?_))
  have hT1 : ({ s with toks := s.toks + 1 } : Shared).TypeIs (.ref f) "function" := ⟨_, hF, rfl⟩
  unfold getAttrBy
  refine wpAny_holding (wpAny_bind (wpAny_typeOf hT1 (wpAny_bind (wpAny_of_eq slot_fn_ga.lookup ?_))))
  refine (show wpAny _ _ (getAttrByItsOwn (.ref f) (.str name s.toks) (.type "function") (.builtin "object.__getattribute__") true false) _ _ _ from ?_)
  unfold getAttrByItsOwn
  refine wpAny_bind (wpAny_pure ?_)
  refine wpAny_bind (wpAny_attempt (wpAny_holding ?_))
  refine (show wpAny _ _ (boundAndCalled (.builtin "object.__getattribute__") (.ref f) (.str name s.toks)) _ _ _ from ?_)
  unfold boundAndCalled
  rw [slot_fn_ga.bind]
  refine wpAny_bind (wpAny_pure ?_)
  refine wpAny_call_entry slot_fn_ga hT1 entry_oga ?_ (args_oga _ _)
  unfold Builtin.«object.__getattribute__»
  refine wpAny_bind (wpAny_pure ?_)
  refine wpAny_bind (wpAny_pure ?_)
  refine wpAny_bind (wpAny_typeOf hT1 ?_)
  refine wpAny_bind ?_
  unfold find
  refine wpAny_bind (wpAny_of_eq hl (wpAny_bind (wpAny_pure (wpAny_bind (wpAny_pure ?_)))))
  refine (show wpAny _ _ (ownThenClass (.ref f) name none none) _ _ _ from ?_)
  unfold ownThenClass
  refine wpAny_bind ?_
  refine (show wpAny _ _ (PySem.Builtin.ObjectAttr.ownDict f >>= fun d => inDict name d) _ _ _ from ?_)
  refine wpAny_bind ?_
  unfold PySem.Builtin.ObjectAttr.ownDict
  refine wpAny_bind (wpAny_loadPart hF ?_)
  refine (show wpAny _ _ (instanceDict f false) _ _ _ from ?_)
  unfold instanceDict
  refine wpAny_bind (wpAny_loadPart hF ?_)
  refine (show wpAny _ _ (pure (some dx)) _ _ _ from wpAny_pure ?_)
  refine (show wpAny _ _ (nsGet dx name) _ _ _ from ?_)
  unfold nsGet
  refine wpAny_bind (wpAny_loadPart hD ?_)
  rw [nsLook_of ((lookIn_dict name es n).trans hv)]
  refine wpAny_pure (wpAny_bind (wpAny_rule (wpAny_pure (wpAny_pure ⟨v, rfl, ?_⟩))))
  refine (show wpAny _ _ (handedOut v) _ _ _ from ?_)
  rw [handedOut_of hb]
  exact wpAny_pure (wpAny_pure (h _))
end
end Mine
end
section
open PySem PySem.W PyProof.Rows PySem.Calls PySem.Spec PyProof.V
set_option maxRecDepth 100000
namespace Mine
section
variable {prog : Program} {w : World} {A : Around} {E : Value → Shared → Prop} {s : Shared} {h₀ : Heap} {L D : Addr} {m : Str → Option Value} {news news' : List (Addr × Obj)}
theorem pop0 {v : Value} {r : List Value} {n : Nat} {u : Tok} {Q : Value → Shared → Prop} (F : Fr h₀ L s.heap m) (N : News h₀ L s.heap news) (U : Upd D (listOf (v :: r).toArray n) (listOf r.toArray (n + 1)) news news')
    (hz : r.length ≤ 100000) (h : ∀ h', Fr h₀ L h' m → News h₀ L h' news' → Q v { s with heap := h' }) : wpAny (model prog w) A (call (.builtin "list.pop") [.ref D, .int 0 u]) Q E s :=
  kl_popAt (k := 0) (p := []) (q := r) F N rfl (by unfold seqIndex?; simp) rfl U (by rw [sizeLine_eq]; simp; omega) h
theorem truthy_cons {v : Value} {r : List Value} {n : Nat} {Q : Bool → Shared → Prop} (N : News h₀ L s.heap news) (hm : (D, listOf (v :: r).toArray n) ∈ news) (hz : r.length ≤ 100000) (h : ∀ tk, Q true { s with toks := tk }) :
    wpAny (model prog w) A (truthy (.ref D)) Q E s :=
  wpAny_truthy_list (News.isList N hm) (by simp; omega) (by simpa [Array.isEmpty] using h _)
theorem truthy_nil {n : Nat} {Q : Bool → Shared → Prop} (N : News h₀ L s.heap news) (hm : (D, listOf ([] : List Value).toArray n) ∈ news) (h : ∀ tk, Q false { s with toks := tk }) :
    wpAny (model prog w) A (truthy (.ref D)) Q E s :=
  wpAny_truthy_list (News.isList N hm) (by simp) (h _)
end

abbrev fnObj (fd : FuncData) : Obj := { cls := .type "function", data := .func fd }


/-- what a call of the stream's reader does: the first sign leaves the list of signs -/
def RdSpec (w : World) (rf cell D cc : Addr) (fdr : FuncData) (ocell oc : Obj) : Prop :=
  ∀ (loose : List Str) (mean : ExcName → Option Value) (mg mb : Str → Option Value) (dp un : Nat) (gd : Option (List Code)) (cn : Str) (cs : Scope) (a : Addr) (ccd : Value) (cl : List (Str × Addr)) (outer : List Env) (A₀ : Around) (base h₀ : Heap) (L : Addr) (m : Str → Option Value)
    (news : List (Addr × Obj)) (s : Shared) (Q E : Value → Shared → Prop) (t : Tok) (ys : List Value) (c : Nat),
    Below A₀ base outer h₀ → Fr h₀ L s.heap m → (frag.heap_1 w.params).In h₀ → News h₀ L s.heap ((D, listOf ys.toArray c) :: news) → Top topProg loose mean mg mb h₀ → CodeHd h₀ 83 79 → cs.kind = .function → dp + 8 < recursionLimit → un + 64 < cLine →
    (∀ p ∈ news, p.1 ≠ D) → (rf, fnObj fdr) ∈ news → (cell, ocell) ∈ news → (cc, oc) ∈ news → ys.length ≤ 100000 →
    (ys = [] → ∀ t' tk' h', Fr h₀ L h' m → News h₀ L h' ((D, listOf ys.toArray c) :: news) → Q (.str (Str.ofString "") t') { s with heap := h', toks := tk' }) →
    (∀ v r, ys = v :: r → ∀ c' tk' h', Fr h₀ L h' m → News h₀ L h' ((D, listOf r.toArray c') :: news) → Q v { s with heap := h', toks := tk' }) →
    wpAny (model PySem.Challenge.rw_qc0004_01.row.prog w) (ktrTop dp un gd cn cs L a ccd cl outer) (call (.ref rf) [.int 1 t]) Q E s

/-- the lexer's own dict -/
abbrev lexDict (w : World) (ln : Int) (st pb : Addr) (t1 t2 t3 t4 t5 t6 : Tok) : Obj :=
  dictOf [⟨PyData.keyHash w.params (Str.ofString "lineno"), .str (Str.ofString "lineno") t1, .int ln t2⟩, ⟨PyData.keyHash w.params (Str.ofString "instream"), .str (Str.ofString "instream") t3, .ref st⟩,
    ⟨PyData.keyHash w.params (Str.ofString "whitespace"), .str (Str.ofString "whitespace") t4, .str (Str.ofString "\n\t\r ") t5⟩, ⟨PyData.keyHash w.params (Str.ofString "pushback"), .str (Str.ofString "pushback") t6, .ref pb⟩] 4
end Mine
end
section
open PySem PySem.W PyProof.Rows PySem.Calls PySem.Spec PyProof.V
set_option maxRecDepth 100000
set_option maxHeartbeats 4000000
namespace Mine
local macro_rules | `(tactic| walk_at "my.pad0") => `(tactic| skip)
local macro_rules | `(tactic| walk_at $s:str) => `(tactic| k_extra $s)
/-- the list's values are the signs with these codes -/
def SgAre (ys : List Value) (ks : List Nat) : Prop := StrsAre ys (ks.map fun k => (⟨#[k]⟩ : Str))

theorem sg_eq (k j : Nat) : ((⟨#[k]⟩ : Str) == (⟨#[j]⟩ : Str)) = decide (k = j) := by
  by_cases h : k = j
  · subst h; simp
  · rw [decide_eq_false h]
    rw [beq_eq_false_iff_ne]
    intro e
    injection e with e
    simp at e
    exact h e
theorem str_nl : Str.ofString "\n" = ⟨#[10]⟩ := by decide +kernel
local macro_rules | `(tactic| k_mem) => `(tactic| assumption)
local macro_rules | `(tactic| k_room) => `(tactic| ktr_room)
local macro_rules | `(tactic| k_all) => `(tactic| first | assumption | (intro p9 hp9; have h9 := NB.at (by assumption) hp9; (refine neN ?_); (try dsimp only); omega))
theorem readchar_code {w : World} {loose : List Str} {mean : ExcName → Option Value} {mg mb : Str → Option Value}
  (dp un : Nat) (gd : Option (List Code)) (cn : Str) (cs : Scope) (a : Addr) (ccd : Value) (cl : List (Str × Addr)) (outer : List Env) (A₀ : Around) (base h₀ : Heap) (L : Addr) (m : Str → Option Value) (news : List (Addr × Obj)) (s : Shared) (Q E : Value → Shared → Prop)
  (pb lx dd dx rf cc st D cell : Nat) (fdr fds : FuncData) (oc ocell : Obj) (ys : List Value) (ks : List Nat) (c : Nat) (ln : Int) (u t1 t2 t3 t4 t5 t6 : Tok)
  (B : Below A₀ base outer h₀) (F : Fr h₀ L s.heap m) (X : (frag.heap_1 w.params).In h₀) (N : News h₀ L s.heap ((D, listOf ys.toArray c) :: (dd, lexDict w ln st pb t1 t2 t3 t4 t5 t6) :: news)) (hC : CodeHd h₀ 83 79) (T : Top topProg loose mean mg mb h₀) (hk : cs.kind = .function)
  (hd : dp + 12 < recursionLimit) (hun : un + 80 < cLine)
  (hlx : (lx, instObj 66 dd) ∈ news) (hdx : (dx, dictOf [⟨PyData.keyHash w.params (Str.ofString "read"), .str (Str.ofString "read") u, .ref rf⟩] 1) ∈ news) (hst : (st, ({ cls := .type "function", dict := some dx, data := .func fds } : Obj)) ∈ news)
  (hrf : (rf, fnObj fdr) ∈ news) (hcc : (cc, oc) ∈ news) (hcell : (cell, ocell) ∈ news) (hD : ∀ p ∈ news, p.1 ≠ D) (hdd : ∀ p ∈ news, p.1 ≠ dd) (hDd : D ≠ dd)
  (hRd : RdSpec w rf cell D cc fdr ocell oc) (hys : SgAre ys ks) (hlen : ys.length ≤ 100000)
  (hnil : ks = [] → ∀ t' h' tk', Fr h₀ L h' m → News h₀ L h' ((D, listOf ys.toArray c) :: (dd, lexDict w ln st pb t1 t2 t3 t4 t5 t6) :: news) → Q (.str (Str.ofString "") t') { s with heap := h', toks := tk' })
  (hcons : ∀ k r, ks = k :: r → ∀ t' ys' c' h' tk' t2', Fr h₀ L h' m → SgAre ys' r → ys'.length ≤ 100000 → News h₀ L h' ((D, listOf ys'.toArray c') :: (dd, lexDict w (if k = 10 then ln + 1 else ln) st pb t1 t2' t3 t4 t5 t6) :: news) → Q (.str ⟨#[k]⟩ t') { s with heap := h', toks := tk' }) :
  codeAny (model PySem.Challenge.rw_qc0004_01.row.prog w) (ktrTop dp un gd cn cs L a ccd cl outer) (.call (.ref 49) ⟨[.ref lx], []⟩) (fun r s' => match r with | .ok (.ret v) => Q v s' | .ok _ => False | .error e => E e s') s := by
  w_strict (
    w_top off
    k_with_none
    k_with "execs cons" => (k_here; (fail_if_success (with_reducible show wpAny _ _ _ Q9 _ _)); k_dflt (refine (let Q9 : Flow → Shared → Prop := _; let E9 : Value → Shared → Prop := _; (show wpAny _ _ (execs _ _) Q9 E9 _ from ?_))))
    k_with "getMethod ref" => ((k_here; (with_reducible show wpAny _ _ (getMethod (Value.ref _) (PySem.Str.ofString "read") _) _ _ _); k_dflt (refine getMethod_fn fn_none (by k_asm) (by k_mem) (by k_mem) rfl rfl ?_); intro tk9))
    revert X; k_fill; intro X
    k_dflt ktr_enter
    rename Below _ _ _ _ => B'
    rename Fr _ _ _ _ => F'
    rename News _ _ _ _ => N'
    have hC' : CodeHd _ 83 79 := hC.keeps (Fr.keep (by assumption))
    k_steps
    k_dflt (refine hRd _ _ _ _ _ _ _ _ _ _ _ _ _ _ _ _ _ _ _ _ _ _ _ ys c (by k_asm) (by k_asm) (by k_asm) N' (by k_asm) hC' rfl (by ktr_room) (by ktr_units) (List.forall_mem_cons.mpr ⟨Ne.symm hDd, hD⟩) (.tail _ hrf) (.tail _ hcell) (.tail _ hcc) hlen ?_ ?_)
    · intro e t' tk' h' F1 N1
      subst e
      have hks : ks = [] := by cases ks with
        | nil => rfl
        | cons => cases hys
      clear N' F'
      k_steps
      exact hnil hks _ _ _ (by k_asm) (by k_asm)
    · intro v r e c' tk' h' F1 N1
      subst e
      cases ks with
      | nil => cases hys
      | cons k ks =>
        cases hys with
        | cons _ t' hys =>
        clear N' F'
        have hr : r.length ≤ 100000 := by simp at hlen; omega
        k_steps
        · have hb : ((⟨#[k]⟩ : Str) == Str.ofString "\n") = true := by assumption
          rw [str_nl, sg_eq] at hb
          have hk10 : k = 10 := of_decide_eq_true hb
          have H := hcons k ks rfl
          rw [if_pos hk10] at H
          rename News _ _ _ _ => N3
          exact H _ r _ _ _ _ (by k_asm) hys hr N3
        · have hb : ((⟨#[k]⟩ : Str) == Str.ofString "\n") = false := by assumption
          rw [str_nl, sg_eq] at hb
          have hk10 : ¬ k = 10 := of_decide_eq_false hb
          have H := hcons k ks rfl
          rw [if_neg hk10] at H
          rename News _ _ _ _ => N3
          exact H _ r _ _ _ _ (by k_asm) hys hr N3)
end Mine
end
section
open PySem PySem.W PyProof.Rows PySem.Calls PySem.Spec PyProof.V
set_option maxRecDepth 100000
namespace Mine
abbrev ciObj (q : Addr) (x : Str) (t : Tok) : Obj := { cls := .type "callable_iterator", data := .fields #[.ref q, .str x t, .bool false] }
theorem mth_call : typeLookup (.type "method") "__call__" = pure (some (.builtin "method.__call__")) := by rw [typeLookup_type, builtinLookup_eq_fast]; kernel_rfl
theorem slot_ci_next : Slot "callable_iterator" "__next__" "callable_iterator.__next__" :=
  .of (owner := "callable_iterator") (n := "__next__") (by rw [typeLookup_type, builtinLookup_eq_fast]; kernel_rfl) (by decide +kernel) (by decide +kernel) (by decide +kernel)
    (by first | exact .inl (by decide +kernel) | exact .inr (by decide +kernel)) (by rw [isSubtype_type]; kernel_rfl)
theorem entry_ci_next : entryFor table "callable_iterator.__next__" = some Builtin.«callable_iterator.__next__» := entryFor_of_tree (by kernel_rfl)
theorem args_ci_next (a : Value) : argsOk "callable_iterator.__next__" ⟨[a], []⟩ := by unfold argsOk; kernel_rfl
theorem entry_iter : entryFor table "iter" = some Builtin.«iter» := entryFor_of_tree (by kernel_rfl)
theorem kind_iter : builtinKind "iter" = none := by decide +kernel
theorem plain_iter : plainId "iter" = true := by decide +kernel
theorem args_iter (a b : Value) : argsOk "iter" ⟨[a, b], []⟩ := by unfold argsOk; kernel_rfl
theorem callBorrowed_eq (f : Value) (pos : List Value) : callBorrowed f pos = (call f pos).keep [borrowed] := by
  unfold callBorrowed call runValue run
  show Sem.call _ _ _ _ _ = Sem.call _ _ _ _ _
  congr 1
  funext r
  cases r with
  | error e => rfl
  | ok f => cases f <;> rfl
section
variable {prog : Program} {w : World} {A : Around} {E : Value → Shared → Prop} {s : Shared} {h₀ : Heap} {L : Addr} {m : Str → Option Value} {news : List (Addr × Obj)}
theorem iter2 {q : Addr} {f self : Value} {x : Str} {t : Tok} {Q : Value → Shared → Prop} (F : Fr h₀ L s.heap m) (N : News h₀ L s.heap news) (hq : (q, methodObj f self) ∈ news)
    (h : ∀ it h', Fr h₀ L h' m → News h₀ L h' ((it, ciObj q x t) :: news) → (∀ p ∈ news, p.1 < it) → Q (.ref it) { s with heap := h' }) :
    wpAny (model prog w) A (call (.builtin "iter") [.ref q, .str x t]) Q E s := by
  have hT : s.TypeIs (.ref q) "method" := ⟨_, (N _ hq).1, rfl⟩
  refine Calls.call_function_entry kind_iter plain_iter entry_iter (args_iter _ _) ?_
  unfold Builtin.«iter»
  refine wpAny_bind (wpAny_pure ?_)
  refine wpAny_bind (wpAny_specialOf hT mth_call ?_)
  refine (show wpAny _ _ (rule "iter.sentinel" >>= fun _ => newFields "callable_iterator" [.ref q, .str x t, .bool false] >>= fun v => ret v) _ _ _ from ?_)
  refine wpAny_bind (wpAny_rule (wpAny_bind (wpAny_newObj_type (wpAny_pure ⟨_, rfl, ?_⟩))))
  exact h _ _ (F.push _) (N.push F _) fun p hp => Heap.lt_size (N p hp).1

/-- one turn of iter(method, sentinel) over a method that hands back a text -/
theorem next_call {it q f lx : Addr} {x : Str} {t : Tok} {fo : Obj} {fd : FuncData} {Q : Option Value → Shared → Prop} (hh : A.handled = none)
    (hit : s.heap.get? it = some (ciObj q x t)) (hq : s.heap.get? q = some (methodObj (.ref f) (.ref lx))) (hf : s.heap.get? f = some fo) (hfd : fo.data = .func fd)
    (hc : codeAny (model prog w) A.in1 (.call (.ref f) ⟨[.ref lx], []⟩) (fun r s' => match r with
      | .ok (.ret v) => ∃ y ty fo' fd', v = .str y ty ∧ s'.heap.get? it = some (ciObj q x t) ∧ s'.heap.get? q = some (methodObj (.ref f) (.ref lx)) ∧ s'.heap.get? f = some fo' ∧ fo'.data = .func fd' ∧
          (y ≠ x → ∀ tk, Q (some v) { s' with toks := tk }) ∧ (y = x → ∀ h' tk, Heap.ExtBut it s'.heap h' → Q none { s' with heap := h', toks := tk })
      | .ok _ => False
      | .error _ => False) s) : wpAny (model prog w) A (pyNext (.ref it)) Q E s := by
  have hT : s.TypeIs (.ref it) "callable_iterator" := ⟨_, hit, rfl⟩
  unfold pyNext
  refine wpAny_bind (wpAny_attempt (wpAny_callSpecial?_slot (name := Str.ofString "__next__") hT slot_ci_next (wpAny_call_entry slot_ci_next hT entry_ci_next ?_ (args_ci_next _))))
  unfold Builtin.«callable_iterator.__next__»
  refine wpAny_bind (wpAny_pure ?_)
  refine wpAny_bind (wpAny_field hit rfl (x := .bool false) rfl ?_)
  rw [if_neg (by decide)]
  refine wpAny_bind (wpAny_field hit rfl (x := .ref q) rfl ?_)
  refine wpAny_bind (wpAny_attempt ?_)
  unfold callOutOfASlot
  have hb : ∀ (s : Shared) (Q : Bool → Shared → Prop) (E : Value → Shared → Prop) (fo : Obj) (fd : FuncData), s.heap.get? q = some (methodObj (.ref f) (.ref lx)) → s.heap.get? f = some fo → fo.data = .func fd → Q true s → wpAny (model prog w) A.in1 (borrowsExactly (.ref q)) Q E s := by
    intro s Q E fo fd hq hf hfd h
    unfold borrowsExactly
    refine wpAny_bind (wpAny_load hq ?_)
    refine (show wpAny _ _ (load f >>= fun o => match o.data with | .func _ => pure true | _ => pure false) _ _ _ from ?_)
    refine wpAny_bind (wpAny_load hf ?_)
    rw [hfd]
    exact wpAny_pure h
  refine wpAny_bind (hb _ _ _ _ _ hq hf hfd ?_)
  simp only [if_true]
  rw [callBorrowed_eq]
  refine Calls.wpAny_keep (wpAny_call (method_call hq (codeAny_mono hc fun r s' z => ?_)))
  match r with
  | .error _ => exact z.elim
  | .ok .next => exact z.elim
  | .ok .brk => exact z.elim
  | .ok .cont => exact z.elim
  | .ok (.ret v) =>
    obtain ⟨y, ty, fo', fd', rfl, hit', hq', hf', hfd', hne, heq⟩ := z
    refine wpAny_bind (wpAny_field hit' rfl (x := .bool false) rfl ?_)
    rw [if_neg (by decide)]
    refine wpAny_bind (wpAny_field hit' rfl (x := .str x t) rfl ?_)
    refine wpAny_bind (wpAny_holding ((PySem.strKind prog w).eqBool (a := x) (b := y) (strKind_is _ _ _ _) (strKind_is _ _ _ _) ?_))
    by_cases hxy : x = y
    · subst hxy
      rw [decide_eq_true rfl]
      refine wpAny_bind (wpAny_rule ?_)
      refine wpAny_bind ?_
      refine (show wpAny _ _ (field (.ref it) 0 >>= fun old => slotLetsGo "callable_iterator.__next__" old _ >>= fun _ => setField (.ref it) 0 .none >>= fun _ => setField (.ref it) 1 .none >>= fun _ => setField (.ref it) 2 (.bool true)) _ _ _ from ?_)
      refine wpAny_bind (wpAny_field hit' rfl (x := .ref q) rfl ?_)
      refine wpAny_bind ?_
      unfold slotLetsGo
      refine wpAny_bind (hb _ _ _ _ _ hq' hf' hfd' ?_)
      refine (show wpAny _ _ (pure ()) _ _ _ from wpAny_pure ?_)
      have g1 : (s'.heap.update it (Obj.mapFields (·.setIfInBounds 0 .none))).get? it = some { cls := .type "callable_iterator", data := .fields #[.none, .str x t, .bool false] } := Heap.get?_update_self _ hit' rfl
      refine wpAny_bind (wpAny_setField hit' rfl (by simp) ?_)
      refine wpAny_bind (wpAny_setField g1 rfl (by simp) ?_)
      have g2 := Heap.get?_update_self (Obj.mapFields (·.setIfInBounds 1 .none)) g1 rfl
      refine wpAny_setField g2 rfl (by simp) ?_
      refine (show wpAny _ _ (newExc (.type "StopIteration") [] >>= fun e => raiseNew e) _ _ _ from ?_)
      refine wpAny_bind ?_
      simp only [newExc, newTuple]
      refine wpAny_bind (wpAny_newObj_type ?_ (by size_fits))
      refine wpAny_bind (m := firstArgMember _ _) (wpAny_of_eq (a := Value.none) (by first | rfl | (simp only [firstArgMember]; rfl)) ?_)
      refine wpAny_newObj_type ?_ (by size_fits)
      simp only [raiseNew]
      refine wpAny_bind (wpAny_handled ?_)
      rw [show A.in1.handled = none from hh]
      refine wpAny_bind (wpAny_pure (wpAny_throw ?_))
      refine wpAny_bind (wpAny_isInstance (T := "StopIteration") (b := true) ⟨_, Heap.get?_push_size _ rfl, rfl⟩ isSubtype_stop ?_)
      refine wpAny_pure (heq rfl _ _ ?_)
      intro b o hb' e
      refine Heap.get?_push_of_some _ (Heap.get?_push_of_some _ ?_)
      rw [Heap.get?_update_ne _ _ _ _ hb', Heap.get?_update_ne _ _ _ _ hb', Heap.get?_update_ne _ _ _ _ hb']
      exact e
    · rw [decide_eq_false hxy]
      exact wpAny_pure ⟨_, rfl, wpAny_pure (hne (fun e => hxy e.symm) _)⟩
end
end Mine
end
section
open PySem PySem.W PyProof.Rows PySem.Calls PySem.Spec PyProof.V
set_option maxRecDepth 100000
namespace Mine
theorem ci_entry : entryFor table "callable_iterator.__iter__" = some Builtin.«dict_keyiterator.__iter__» :=
  entryFor_alias (id' := "dict_keyiterator.__iter__") (by kernel_rfl) rfl (by decide +kernel) (by kernel_rfl)
theorem slot_ci_iter : Slot "callable_iterator" "__iter__" "callable_iterator.__iter__" :=
  .of (owner := "callable_iterator") (n := "__iter__") (by rw [typeLookup_type, builtinLookup_eq_fast]; kernel_rfl) (by decide +kernel) (by decide +kernel) (by decide +kernel)
    (by first | exact .inl (by decide +kernel) | exact .inr (by decide +kernel)) (by rw [isSubtype_type]; kernel_rfl)
theorem args_ci_iter (a : Value) : argsOk "callable_iterator.__iter__" ⟨[a], []⟩ := by unfold argsOk; kernel_rfl

theorem ci_self {prog : Program} {w : World} {A : Around} {E : Value → Shared → Prop} {s : Shared} {it q : Addr} {x : Str} {t : Tok} {Q : Value → Shared → Prop} (hit : s.heap.get? it = some (ciObj q x t)) (h : Q (.ref it) s) : wpAny (model prog w) A (pyIter (.ref it)) Q E s := by
  have hT : s.TypeIs (.ref it) "callable_iterator" := ⟨_, hit, rfl⟩
  refine wpAny_pyIter_slot hT slot_ci_iter (wpAny_call_entry slot_ci_iter hT ci_entry ?_ (args_ci_iter _))
  show wpAny _ _ (ret (.ref it)) _ _ s
  exact wpAny_pure ⟨_, rfl, "callable_iterator", _, hT, slot_ci_next.lookup, h⟩

/-- the lexer's objects that stay as they are while it reads -/
structure LexS (w : World) (news : List (Addr × Obj)) (lx dd dx rf cc st D cell : Nat) (u : Tok) (fdr fds : FuncData) (oc ocell : Obj) : Prop where
  hlx : (lx, instObj 66 dd) ∈ news
  hdx : (dx, dictOf [⟨PyData.keyHash w.params (Str.ofString "read"), .str (Str.ofString "read") u, .ref rf⟩] 1) ∈ news
  hst : (st, ({ cls := .type "function", dict := some dx, data := .func fds } : Obj)) ∈ news
  hrf : (rf, fnObj fdr) ∈ news
  hcc : (cc, oc) ∈ news
  hcell : (cell, ocell) ∈ news
  hD : ∀ p ∈ news, p.1 ≠ D
  hdd : ∀ p ∈ news, p.1 ≠ dd
  hDd : D ≠ dd
  hRd : RdSpec w rf cell D cc fdr ocell oc

theorem LexS.cons {w : World} {news : List (Addr × Obj)} {lx dd dx rf cc st D cell : Nat} {u : Tok} {fdr fds : FuncData} {oc ocell : Obj} (h : LexS w news lx dd dx rf cc st D cell u fdr fds oc ocell) {p : Addr × Obj} (h1 : p.1 ≠ D) (h2 : p.1 ≠ dd) :
    LexS w (p :: news) lx dd dx rf cc st D cell u fdr fds oc ocell :=
  ⟨.tail _ h.hlx, .tail _ h.hdx, .tail _ h.hst, .tail _ h.hrf, .tail _ h.hcc, .tail _ h.hcell, List.forall_mem_cons.mpr ⟨h1, h.hD⟩, List.forall_mem_cons.mpr ⟨h2, h.hdd⟩, h.hDd, h.hRd⟩

theorem rc_fn {w : World} {h₀ : Heap} (X : (frag.heap_1 w.params).In h₀) : ∃ fo fd, h₀.get? 49 = some fo ∧ fo.data = .func fd := ⟨_, _, X 49 _ rfl, rfl⟩

section
variable {w : World} {loose : List Str} {mean : ExcName → Option Value} {mg mb : Str → Option Value} {dp un : Nat} {gd : Option (List Code)} {cn : Str} {cs : Scope} {a : Addr} {ccd : Value} {cl : List (Str × Addr)} {outer : List Env} {A₀ : Around} {base h₀ : Heap} {L : Addr}
  {news : List (Addr × Obj)} {s : Shared} {E : Value → Shared → Prop} {pb lx dd dx rf cc st D cell : Nat} {fdr fds : FuncData} {oc ocell : Obj} {u t1 t3 t4 t5 t6 : Tok} {it q : Nat} {ts : Tok}

theorem for_lex {x : Str} {px : Pos} {body : List Stmt} {Q : Flow → Shared → Prop} (J : List Nat → Int → (Str → Option Value) → Prop)
    (B : Below A₀ base outer h₀) (X : (frag.heap_1 w.params).In h₀) (hC : CodeHd h₀ 83 79) (T : Top topProg loose mean mg mb h₀) (hk : cs.kind = .function) (hdp : dp + 12 < recursionLimit) (hun : un + 81 < cLine)
    (S : LexS w news lx dd dx rf cc st D cell u fdr fds oc ocell) (hq : (q, methodObj (.ref 49) (.ref lx)) ∈ news) (hiD : it ≠ D) (hid : it ≠ dd) (hin : ∀ p ∈ news, p.1 ≠ it)
    (turn : ∀ k ks ln m t ys c t2 h tk, J (k :: ks) ln m → SgAre ys ks → ys.length ≤ 100000 → Fr h₀ L h m →
      News h₀ L h ((D, listOf ys.toArray c) :: (dd, lexDict w (if k = 10 then ln + 1 else ln) st pb t1 t2 t3 t4 t5 t6) :: (it, ciObj q (Str.ofString "") ts) :: news) →
      wpAny (model PySem.Challenge.rw_qc0004_01.row.prog w) (ktrTop dp un gd cn cs L a ccd cl outer) (assign (.Name x px) (envX cn cs L a ccd cl) (.str ⟨#[k]⟩ t)) (fun _ s₂ =>
      wpAny (model PySem.Challenge.rw_qc0004_01.row.prog w) (ktrTop dp un gd cn cs L a ccd cl outer) (execs body (envX cn cs L a ccd cl)) (fun f s₃ => match f with
        | .next | .cont => ∃ ks' ln' m' ys' c' t2' h' tk', s₃ = { s with heap := h', toks := tk' } ∧ ks'.length ≤ ks.length ∧ J ks' ln' m' ∧ SgAre ys' ks' ∧ ys'.length ≤ 100000 ∧ Fr h₀ L h' m' ∧
            News h₀ L h' ((D, listOf ys'.toArray c') :: (dd, lexDict w ln' st pb t1 t2' t3 t4 t5 t6) :: (it, ciObj q (Str.ofString "") ts) :: news)
        | .brk => Q .next s₃
        | .ret v => Q (.ret v) s₃) E s₂) E { s with heap := h, toks := tk })
    (done : ∀ ln m ys c t2 h tk, J [] ln m → SgAre ys [] → Fr h₀ L h m → News h₀ L h ((D, listOf ys.toArray c) :: (dd, lexDict w ln st pb t1 t2 t3 t4 t5 t6) :: news) → Q .next { s with heap := h, toks := tk })
    (hE : PassesOwn (model PySem.Challenge.rw_qc0004_01.row.prog w) (ktrTop dp un gd cn cs L a ccd cl outer) (envX cn cs L a ccd cl) E)
    {ks : List Nat} {ln : Int} {m : Str → Option Value} {ys : List Value} {c : Nat} {t2 : Tok} (h0 : J ks ln m) (hys : SgAre ys ks) (hlen : ys.length ≤ 100000) (F : Fr h₀ L s.heap m)
    (N : News h₀ L s.heap ((D, listOf ys.toArray c) :: (dd, lexDict w ln st pb t1 t2 t3 t4 t5 t6) :: (it, ciObj q (Str.ofString "") ts) :: news)) :
    codeAny (model PySem.Challenge.rw_qc0004_01.row.prog w) (ktrTop dp un gd cn cs L a ccd cl outer) (.forLoop (.Name x px) (.ref it) body [] (envX cn cs L a ccd cl))
      (fun r s' => match r with | .ok f => Q f s' | .error e => cameBackBy (model PySem.Challenge.rw_qc0004_01.row.prog w) (ktrTop dp un gd cn cs L a ccd cl outer) (envX cn cs L a ccd cl) E e s') s := by
  refine codeAny_forLoop_any (fun n s' => ∃ ks ln m ys c t2 h tk, s' = { s with heap := h, toks := tk } ∧ n = ks.length + 1 ∧ J ks ln m ∧ SgAre ys ks ∧ ys.length ≤ 100000 ∧ Fr h₀ L h m ∧
      News h₀ L h ((D, listOf ys.toArray c) :: (dd, lexDict w ln st pb t1 t2 t3 t4 t5 t6) :: (it, ciObj q (Str.ofString "") ts) :: news)) ?_ (ks.length + 1) ⟨ks, ln, m, ys, c, t2, s.heap, s.toks, rfl, rfl, h0, hys, hlen, F, N⟩
  rintro n s' ⟨ks, ln, m, ys, c, t2, h, tk, rfl, rfl, hJ, hys, hlen, F, N⟩
  have mit : ∀ {h' : Heap} {o1 o2 : Obj}, News h₀ L h' ((D, o1) :: (dd, o2) :: (it, ciObj q (Str.ofString "") ts) :: news) → h'.get? it = some (ciObj q (Str.ofString "") ts) := fun N => (N _ (.tail _ (.tail _ (.head _)))).1
  have mq : ∀ {h' : Heap} {o1 o2 : Obj}, News h₀ L h' ((D, o1) :: (dd, o2) :: (it, ciObj q (Str.ofString "") ts) :: news) → h'.get? q = some (methodObj (.ref 49) (.ref lx)) := fun N => (N _ (.tail _ (.tail _ (.tail _ hq)))).1
  obtain ⟨fo, fd, hfo, hfd⟩ := rc_fn X
  have S' := S.cons (p := (it, ciObj q (Str.ofString "") ts)) hiD hid
  have hit0 : h₀.get? it = none := (N _ (.tail _ (.tail _ (.head _)))).2.2
  have hitL : it ≠ L := (N _ (.tail _ (.tail _ (.head _)))).2.1
  refine wpAny_passesOwn hE (next_call rfl (mit N) (mq N) (F.keep _ _ hfo) hfd (readchar_code dp (un + 1) gd cn cs a ccd cl outer A₀ base h₀ L m _ _ (fun v s' => ∃ y ty fo' fd', v = .str y ty ∧ s'.heap.get? it = some (ciObj q (Str.ofString "") ts) ∧ s'.heap.get? q = some (methodObj (.ref 49) (.ref lx)) ∧ s'.heap.get? 49 = some fo' ∧ fo'.data = .func fd' ∧ (y ≠ Str.ofString "" → _) ∧ (y = Str.ofString "" → _)) (fun _ _ => False) pb lx dd dx rf cc st D cell fdr fds oc ocell ys ks c ln u t1 t2 t3 t4 t5 t6 B F X N hC T hk hdp (by omega) S'.hlx S'.hdx S'.hst S'.hrf S'.hcc S'.hcell S'.hD S'.hdd S'.hDd S'.hRd hys hlen ?_ ?_))
  · intro e t' h' tk' F' N'
    subst e
    refine ⟨_, _, _, _, rfl, mit N', mq N', F'.keep _ _ hfo, hfd, fun hne => absurd rfl hne, fun _ h'' tk'' he => ?_⟩
    refine wpAny_passesOwn hE (wpAny_execs_nil ?_)
    refine done ln m ys c t2 h'' tk'' hJ hys ⟨F'.ns.extBut he (Ne.symm hitL), fun b o e => he b o ?_ (F'.keep b o e), F'.above⟩ fun p hp => ?_
    · intro hb; rw [hb, hit0] at e; cases e
    · have hp' : p ∈ ((D, listOf ys.toArray c) :: (dd, lexDict w ln st pb t1 t2 t3 t4 t5 t6) :: (it, ciObj q (Str.ofString "") ts) :: news) := by
        cases hp with
        | head => exact .head _
        | tail _ hp => cases hp with
          | head => exact .tail _ (.head _)
          | tail _ hp => exact .tail _ (.tail _ (.tail _ hp))
      obtain ⟨n1, n2, n3⟩ := N' p hp'
      refine ⟨he _ _ ?_ n1, n2, n3⟩
      cases hp with
      | head => exact Ne.symm hiD
      | tail _ hp => cases hp with
        | head => exact Ne.symm hid
        | tail _ hp => exact hin p hp
  · intro k r e t' ys' c' h' tk' t2' F' hys' hlen' N'
    subst e
    refine ⟨_, _, _, _, rfl, mit N', mq N', F'.keep _ _ hfo, hfd, fun _ tk'' => ?_, fun e => absurd e (by intro e; injection e with e; cases e)⟩
    show wpAny _ _ (pure ()) _ _ _
    refine wpAny_pure ?_
    refine wpAny_passesOwn hE (wpAny_mono (turn k r ln m t' ys' c' t2' h' tk'' hJ hys' hlen' F' N') (fun _ s₂ h₂ => ?_) fun _ _ e => e)
    refine wpAny_passesOwn hE (wpAny_mono h₂ (fun f s₃ h₃ => ?_) fun _ _ e => e)
    match f with
    | .ret v => exact h₃
    | .brk => exact h₃
    | .next =>
      obtain ⟨ks', ln', m', ys', c', t2', h', tk', rfl, hle, hJ', hys', hlen', F', N'⟩ := h₃
      exact ⟨ks'.length + 1, by simp; omega, ks', ln', m', ys', c', t2', h', tk', rfl, rfl, hJ', hys', hlen', F', N'⟩
    | .cont =>
      obtain ⟨ks', ln', m', ys', c', t2', h', tk', rfl, hle, hJ', hys', hlen', F', N'⟩ := h₃
      exact ⟨ks'.length + 1, by simp; omega, ks', ln', m', ys', c', t2', h', tk', rfl, rfl, hJ', hys', hlen', F', N'⟩
end
end Mine
end
section
open PySem PySem.W PyProof.Rows PySem.Calls PySem.Spec PyProof.V
set_option maxRecDepth 100000
namespace Mine
theorem rc_cons {w : World} {loose : List Str} {mean : ExcName → Option Value} {mg mb : Str → Option Value} {dp un : Nat} {gd : Option (List Code)} {cn : Str} {cs : Scope} {a : Addr} {ccd : Value} {cl : List (Str × Addr)} {outer : List Env} {A₀ : Around} {base h₀ : Heap} {L : Addr} {m : Str → Option Value}
  {news : List (Addr × Obj)} {s : Shared} {Q E : Value → Shared → Prop} {pb lx dd dx rf cc st D cell : Nat} {fdr fds : FuncData} {oc ocell : Obj} {ys : List Value} {k : Nat} {r : List Nat} {c : Nat} {ln : Int} {u t1 t2 t3 t4 t5 t6 : Tok}
  (B : Below A₀ base outer h₀) (F : Fr h₀ L s.heap m) (X : (frag.heap_1 w.params).In h₀) (N : News h₀ L s.heap ((D, listOf ys.toArray c) :: (dd, lexDict w ln st pb t1 t2 t3 t4 t5 t6) :: news)) (T : Top topProg loose mean mg mb h₀) (hC : CodeHd h₀ 83 79) (hk : cs.kind = .function)
  (hdp : dp + 12 < recursionLimit) (hun : un + 80 < cLine) (S : LexS w news lx dd dx rf cc st D cell u fdr fds oc ocell) (hys : SgAre ys (k :: r)) (hlen : ys.length ≤ 100000)
  (h : ∀ t' ys' c' h' tk' t2', Fr h₀ L h' m → SgAre ys' r → ys'.length ≤ 100000 → News h₀ L h' ((D, listOf ys'.toArray c') :: (dd, lexDict w (if k = 10 then ln + 1 else ln) st pb t1 t2' t3 t4 t5 t6) :: news) → Q (.str ⟨#[k]⟩ t') { s with heap := h', toks := tk' }) :
  wpAny (model PySem.Challenge.rw_qc0004_01.row.prog w) (ktrTop dp un gd cn cs L a ccd cl outer) (call (.ref 49) [.ref lx]) Q E s := by
  refine wpAny_call (readchar_code dp un gd cn cs a ccd cl outer A₀ base h₀ L m _ _ Q E pb lx dd dx rf cc st D cell fdr fds oc ocell ys (k :: r) c ln u t1 t2 t3 t4 t5 t6 B F X N hC T hk hdp hun S.hlx S.hdx S.hst S.hrf S.hcc S.hcell S.hD S.hdd S.hDd S.hRd hys hlen ?_ ?_)
  · intro e; cases e
  · intro k' r' e t' ys' c' h' tk' t2' F' hs hl N'
    cases e
    exact h t' ys' c' h' tk' t2' F' hs hl N'

def lnUp (k : Nat) (ln : Int) : Int := if k = 10 then ln + 1 else ln
def quo : List Nat → Str → Int → Option (Str × List Nat × Int)
  | [], _, _ => none
  | k :: r, tok, ln => if k = 34 then some (tok, r, ln) else if k = 92 then match r with
      | [] => none
      | k2 :: r2 => quo r2 (tok ++ ⟨#[k2]⟩) (lnUp k2 ln)
    else quo r (tok ++ ⟨#[k]⟩) (lnUp k ln)
def isWs (k : Nat) : Bool := k == 10 || k == 9 || k == 13 || k == 32
def bare : List Nat → Str → Int → Option (Str × List Nat × Int)
  | [], _, _ => none
  | k :: r, tok, ln => if isWs k then some (tok, r, lnUp k ln) else if k = 92 then match r with
      | [] => none
      | k2 :: r2 => bare r2 (tok ++ ⟨#[k2]⟩) (lnUp k2 ln)
    else bare r (tok ++ ⟨#[k]⟩) ln
def tokOf : List Nat → Int → Option (Str × List Nat × Int)
  | [], ln => some (Str.ofString "", [], ln)
  | k :: r, ln => if isWs k then tokOf r (lnUp k ln) else if k = 34 then quo r (Str.ofString "") ln else if k = 92 then match r with
      | [] => none
      | k2 :: r2 => bare r2 (Str.ofString "" ++ ⟨#[k2]⟩) (lnUp k2 ln)
    else bare r (Str.ofString "" ++ ⟨#[k]⟩) ln

def okSigns (ks : List Nat) : Prop := ∀ k ∈ ks, k ∈ [9, 10, 13, 32, 34, 92]
theorem ws_in {k : Nat} (h : k ∈ [9, 10, 13, 32, 34, 92]) : Txt.contains (Str.ofString "\n\t\r ") ⟨#[k]⟩ = isWs k := by
  revert k; decide +kernel
theorem News.perm {h₀ h : Heap} {L : Addr} {n n' : List (Addr × Obj)} (N : News h₀ L h n) (hs : ∀ p ∈ n', p ∈ n) : News h₀ L h n' := fun p hp => N p (hs p hp)
theorem News.rot {h₀ h : Heap} {L : Addr} {a b c d : Addr × Obj} {n : List (Addr × Obj)} (N : News h₀ L h (a :: b :: c :: d :: n)) : News h₀ L h (c :: d :: a :: b :: n) := N.perm fun p hp => by
  simp only [List.mem_cons] at hp ⊢
  rcases hp with h | h | h | h | h <;> simp [h]
theorem News.drop2 {h₀ h : Heap} {L : Addr} {a b c d : Addr × Obj} {n : List (Addr × Obj)} (N : News h₀ L h (a :: b :: c :: d :: n)) : News h₀ L h (a :: b :: n) := N.perm fun p hp => by
  simp only [List.mem_cons] at hp ⊢
  rcases hp with h | h | h <;> simp [h]
theorem News.drop1 {h₀ h : Heap} {L : Addr} {a b c : Addr × Obj} {n : List (Addr × Obj)} (N : News h₀ L h (a :: b :: c :: n)) : News h₀ L h (a :: b :: n) := N.perm fun p hp => by
  simp only [List.mem_cons] at hp ⊢
  rcases hp with h | h | h <;> simp [h]
theorem str_bs : Str.ofString "\\" = ⟨#[92]⟩ := by decide +kernel
theorem str_dq : Str.ofString "\"" = ⟨#[34]⟩ := by decide +kernel
theorem bs_of {k : Nat} (h : ((⟨#[k]⟩ : Str) == Str.ofString "\\") = true) : k = 92 := by rw [str_bs, sg_eq] at h; exact of_decide_eq_true h
theorem bs_not {k : Nat} (h : ((⟨#[k]⟩ : Str) == Str.ofString "\\") = false) : k ≠ 92 := by rw [str_bs, sg_eq] at h; exact of_decide_eq_false h
theorem dq_of {k : Nat} (h : ((⟨#[k]⟩ : Str) == Str.ofString "\"") = true) : k = 34 := by rw [str_dq, sg_eq] at h; exact of_decide_eq_true h
theorem dq_not {k : Nat} (h : ((⟨#[k]⟩ : Str) == Str.ofString "\"") = false) : k ≠ 34 := by rw [str_dq, sg_eq] at h; exact of_decide_eq_false h
def LexEnd (w : World) (h₀ : Heap) (L : Addr) (s : Shared) (Jm : List Nat → Int → (Str → Option Value) → Prop) (n : Nat) (D dd it q st pb : Nat) (t1 t3 t4 t5 t6 ts : Tok) (news : List (Addr × Obj)) (s₃ : Shared) : Prop :=
  ∃ ks' ln' m' ys' c' t2' h' tk', s₃ = { s with heap := h', toks := tk' } ∧ ks'.length ≤ n ∧ Jm ks' ln' m' ∧ SgAre ys' ks' ∧ ys'.length ≤ 100000 ∧ Fr h₀ L h' m' ∧
            News h₀ L h' ((D, listOf ys'.toArray c') :: (dd, lexDict w ln' st pb t1 t2' t3 t4 t5 t6) :: (it, ciObj q (Str.ofString "") ts) :: news)

theorem LexEnd.mk {w : World} {h₀ : Heap} {L : Addr} {s : Shared} {Jm : List Nat → Int → (Str → Option Value) → Prop} {n : Nat} {D dd it q st pb : Nat} {t1 t3 t4 t5 t6 ts : Tok} {news : List (Addr × Obj)} {s₃ : Shared}
    {ks' : List Nat} {ln' : Int} {m' : Str → Option Value} {ys' : List Value} {c' : Nat} {t2' : Tok} {h' : Heap} {tk' : Nat} (e : s₃ = { s with heap := h', toks := tk' }) (hl : ks'.length ≤ n) (hJ : Jm ks' ln' m') (hs : SgAre ys' ks') (hy : ys'.length ≤ 100000) (F : Fr h₀ L h' m')
    (N : News h₀ L h' ((D, listOf ys'.toArray c') :: (dd, lexDict w ln' st pb t1 t2' t3 t4 t5 t6) :: (it, ciObj q (Str.ofString "") ts) :: news)) : LexEnd w h₀ L s Jm n D dd it q st pb t1 t3 t4 t5 t6 ts news s₃ :=
  ⟨ks', ln', m', ys', c', t2', h', tk', e, hl, hJ, hs, hy, F, N⟩
theorem ws_occ {k : Nat} (h : k ∈ [9, 10, 13, 32, 34, 92]) : (Builtin.Str.occurrences (Str.ofString "\n\t\r ") ⟨#[k]⟩ 0 (Str.ofString "\n\t\r ").length 1).isEmpty = !isWs k := by
  revert k; decide +kernel
theorem ws_yes {k : Nat} (h : k ∈ [9, 10, 13, 32, 34, 92]) (e : (Builtin.Str.occurrences (Str.ofString "\n\t\r ") ⟨#[k]⟩ 0 (Str.ofString "\n\t\r ").length 1).isEmpty = false) : isWs k = true := by rw [ws_occ h] at e; simpa using e
theorem ws_no {k : Nat} (h : k ∈ [9, 10, 13, 32, 34, 92]) (e : (Builtin.Str.occurrences (Str.ofString "\n\t\r ") ⟨#[k]⟩ 0 (Str.ofString "\n\t\r ").length 1).isEmpty = true) : isWs k = false := by rw [ws_occ h] at e; simpa using e
theorem no_sign {k : Nat} (h : k ∈ [9, 10, 13, 32, 34, 92]) (h1 : isWs k = false) (h2 : k ≠ 34) (h3 : k ≠ 92) : False := by revert h1 h2 h3; revert k; decide
theorem updA (m : Str → Option Value) {x y : Str} (hxy : x ≠ y) (a b c d e : Option Value) : (fun z => if z = y then a else if z = x then b else if z = x then c else if z = x then d else if z = y then e else m z) = fun z => if z = x then b else if z = y then a else m z := by
  funext z
  by_cases h : z = x
  · subst h; simp [hxy]
  · by_cases h2 : z = y
    · subst h2; simp [h]
    · simp [h, h2]
theorem updB (m : Str → Option Value) {x y : Str} (hxy : x ≠ y) (a b d e : Option Value) : (fun z => if z = y then a else if z = x then b else if z = x then d else if z = y then e else m z) = fun z => if z = x then b else if z = y then a else m z := by
  funext z
  by_cases h : z = x
  · subst h; simp [hxy]
  · by_cases h2 : z = y
    · subst h2; simp [h]
    · simp [h, h2]
theorem add1_len (x : Str) (k : Nat) : (x ++ (⟨#[k]⟩ : Str)).length = x.length + 1 := by
  show (x.cps ++ #[k]).size = x.cps.size + 1
  simp
theorem ch_ne : Str.ofString "ch" ≠ Str.ofString "token" := by decide +kernel
theorem tokOf_ws {k : Nat} {r : List Nat} {ln : Int} (h : isWs k = true) : tokOf (k :: r) ln = tokOf r (lnUp k ln) := by rw [tokOf.eq_def]; simp only [h, if_true]
theorem bare_ws {k : Nat} {r : List Nat} {x : Str} {ln : Int} (h : isWs k = true) : bare (k :: r) x ln = some (x, r, lnUp k ln) := by rw [bare.eq_def]; simp only [h, if_true]
theorem quo_else {k : Nat} {r : List Nat} {x : Str} {ln : Int} (h1 : k ≠ 34) (h2 : k ≠ 92) : quo (k :: r) x ln = quo r (x ++ ⟨#[k]⟩) (lnUp k ln) := by rw [quo.eq_def]; simp only [if_neg h1, if_neg h2]
theorem bare_else {k : Nat} {r : List Nat} {x : Str} {ln : Int} (h1 : isWs k = false) (h2 : k ≠ 92) : bare (k :: r) x ln = bare r (x ++ ⟨#[k]⟩) ln := by rw [bare.eq_def]; simp only [h1, if_neg h2]; rfl
theorem ws_10 {k : Nat} (h : isWs k = false) : k ≠ 10 := by intro e; subst e; exact nomatch h
theorem quo_34 {r : List Nat} {x : Str} {ln : Int} : quo (34 :: r) x ln = some (x, r, ln) := by rw [quo.eq_def]; simp only [if_true]
theorem upd112 (m : Str → Option Value) (x y : Str) (a b c : Option Value) : (fun z => if z = x then a else if z = x then b else if z = y then c else m z) = fun z => if z = x then a else if z = y then c else m z := by
  funext z
  by_cases h : z = x
  · subst h; simp
  · simp [h]
section
variable {w : World} {loose : List Str} {mean : ExcName → Option Value} {mg mb : Str → Option Value} {dp un : Nat} {gd : Option (List Code)} {cn : Str} {cs : Scope} {a : Addr} {ccd : Value} {cl : List (Str × Addr)} {outer : List Env} {A₀ : Around} {base h₀ : Heap} {L : Addr}
  {news : List (Addr × Obj)} {s : Shared} {E : Value → Shared → Prop} {pb lx dd dx rf cc st D cell : Nat} {fdr fds : FuncData} {oc ocell : Obj} {u t1 t3 t4 t5 t6 : Tok} {it q : Nat} {ts : Tok}

theorem for_lex2 {x : Str} {px : Pos} {body : List Stmt} {Q : Flow → Shared → Prop} (J : (Str → Option Value) → List Nat → Int → (Str → Option Value) → Prop) {m₀ : Str → Option Value} (F : Fr h₀ L s.heap m₀)
    (B : Below A₀ base outer h₀) (X : (frag.heap_1 w.params).In h₀) (hC : CodeHd h₀ 83 79) (T : Top topProg loose mean mg mb h₀) (hk : cs.kind = .function) (hdp : dp + 12 < recursionLimit) (hun : un + 81 < cLine)
    (S : LexS w news lx dd dx rf cc st D cell u fdr fds oc ocell) (hq : (q, methodObj (.ref 49) (.ref lx)) ∈ news) (hiD : it ≠ D) (hid : it ≠ dd) (hin : ∀ p ∈ news, p.1 ≠ it)
    (turn : ∀ k ks ln m t ys c t2 h tk, J m₀ (k :: ks) ln m → SgAre ys ks → ys.length ≤ 100000 → Fr h₀ L h m →
      News h₀ L h ((D, listOf ys.toArray c) :: (dd, lexDict w (if k = 10 then ln + 1 else ln) st pb t1 t2 t3 t4 t5 t6) :: (it, ciObj q (Str.ofString "") ts) :: news) →
      wpAny (model PySem.Challenge.rw_qc0004_01.row.prog w) (ktrTop dp un gd cn cs L a ccd cl outer) (assign (.Name x px) (envX cn cs L a ccd cl) (.str ⟨#[k]⟩ t)) (fun _ s₂ =>
      wpAny (model PySem.Challenge.rw_qc0004_01.row.prog w) (ktrTop dp un gd cn cs L a ccd cl outer) (execs body (envX cn cs L a ccd cl)) (fun f s₃ => match f with
        | .next | .cont => ∃ ks' ln' m' ys' c' t2' h' tk', s₃ = { s with heap := h', toks := tk' } ∧ ks'.length ≤ ks.length ∧ J m₀ ks' ln' m' ∧ SgAre ys' ks' ∧ ys'.length ≤ 100000 ∧ Fr h₀ L h' m' ∧
            News h₀ L h' ((D, listOf ys'.toArray c') :: (dd, lexDict w ln' st pb t1 t2' t3 t4 t5 t6) :: (it, ciObj q (Str.ofString "") ts) :: news)
        | .brk => Q .next s₃
        | .ret v => Q (.ret v) s₃) E s₂) E { s with heap := h, toks := tk })
    (done : ∀ ln m ys c t2 h tk, J m₀ [] ln m → SgAre ys [] → Fr h₀ L h m → News h₀ L h ((D, listOf ys.toArray c) :: (dd, lexDict w ln st pb t1 t2 t3 t4 t5 t6) :: news) → Q .next { s with heap := h, toks := tk })
    (hE : PassesOwn (model PySem.Challenge.rw_qc0004_01.row.prog w) (ktrTop dp un gd cn cs L a ccd cl outer) (envX cn cs L a ccd cl) E)
    {ks : List Nat} {ln : Int} {ys : List Value} {c : Nat} {t2 : Tok} (h0 : J m₀ ks ln m₀) (hys : SgAre ys ks) (hlen : ys.length ≤ 100000)
    (N : News h₀ L s.heap ((D, listOf ys.toArray c) :: (dd, lexDict w ln st pb t1 t2 t3 t4 t5 t6) :: (it, ciObj q (Str.ofString "") ts) :: news)) :
    codeAny (model PySem.Challenge.rw_qc0004_01.row.prog w) (ktrTop dp un gd cn cs L a ccd cl outer) (.forLoop (.Name x px) (.ref it) body [] (envX cn cs L a ccd cl))
      (fun r s' => match r with | .ok f => Q f s' | .error e => cameBackBy (model PySem.Challenge.rw_qc0004_01.row.prog w) (ktrTop dp un gd cn cs L a ccd cl outer) (envX cn cs L a ccd cl) E e s') s := by
  exact for_lex (J m₀) B X hC T hk hdp hun S hq hiD hid hin turn done hE h0 hys hlen F N
theorem For_lex {y : Str} {py pos : Pos} {x : Str} {px : Pos} {body : List Stmt} {Q : Flow → Shared → Prop} (J : (Str → Option Value) → List Nat → Int → (Str → Option Value) → Prop) {m₀ : Str → Option Value} (F : Fr h₀ L s.heap m₀) (hy : m₀ y = some (.ref it)) (hyk : (envX cn cs L a ccd cl).kindOf y = some .local) (hyd : (y == ("__debug__" : Str)) = false)
    (B : Below A₀ base outer h₀) (X : (frag.heap_1 w.params).In h₀) (hC : CodeHd h₀ 83 79) (T : Top topProg loose mean mg mb h₀) (hk : cs.kind = .function) (hdp : dp + 12 < recursionLimit) (hun : un + 81 < cLine)
    (S : LexS w news lx dd dx rf cc st D cell u fdr fds oc ocell) (hq : (q, methodObj (.ref 49) (.ref lx)) ∈ news) (hiD : it ≠ D) (hid : it ≠ dd) (hin : ∀ p ∈ news, p.1 ≠ it)
    (turn : ∀ k ks ln m t ys c t2 h tk, J m₀ (k :: ks) ln m → SgAre ys ks → ys.length ≤ 100000 → Fr h₀ L h m →
      News h₀ L h ((D, listOf ys.toArray c) :: (dd, lexDict w (if k = 10 then ln + 1 else ln) st pb t1 t2 t3 t4 t5 t6) :: (it, ciObj q (Str.ofString "") ts) :: news) →
      wpAny (model PySem.Challenge.rw_qc0004_01.row.prog w) (ktrTop dp un gd cn cs L a ccd cl outer) (assign (.Name x px) (envX cn cs L a ccd cl) (.str ⟨#[k]⟩ t)) (fun _ s₂ =>
      wpAny (model PySem.Challenge.rw_qc0004_01.row.prog w) (ktrTop dp un gd cn cs L a ccd cl outer) (execs body (envX cn cs L a ccd cl)) (fun f s₃ => match f with
        | .next | .cont => LexEnd w h₀ L s (J m₀) ks.length D dd it q st pb t1 t3 t4 t5 t6 ts news s₃
        | .brk => Q .next s₃
        | .ret v => Q (.ret v) s₃) E s₂) E { s with heap := h, toks := tk })
    (done : ∀ ln m ys c t2 h tk, J m₀ [] ln m → SgAre ys [] → Fr h₀ L h m → News h₀ L h ((D, listOf ys.toArray c) :: (dd, lexDict w ln st pb t1 t2 t3 t4 t5 t6) :: news) → Q .next { s with heap := h, toks := tk })
    (hE : PassesOwn (model PySem.Challenge.rw_qc0004_01.row.prog w) (ktrTop dp un gd cn cs L a ccd cl outer) (envX cn cs L a ccd cl) E)
    {ks : List Nat} {ln : Int} {ys : List Value} {c : Nat} {t2 : Tok} (h0 : J m₀ ks ln m₀) (hys : SgAre ys ks) (hlen : ys.length ≤ 100000)
    (N : News h₀ L s.heap ((D, listOf ys.toArray c) :: (dd, lexDict w ln st pb t1 t2 t3 t4 t5 t6) :: (it, ciObj q (Str.ofString "") ts) :: news)) :
    wpAny (model PySem.Challenge.rw_qc0004_01.row.prog w) (ktrTop dp un gd cn cs L a ccd cl outer) (exec (.For (.Name x px) (.Name y py) body [] pos) (envX cn cs L a ccd cl)) Q E s := by
  refine wpAny_For ?_
  refine wpAny_Name (wpAny_loadName_local hk hyk F.ns hy ?_) hyd
  refine ci_self (N _ (.tail _ (.tail _ (.head _)))).1 ?_
  refine for_lex2 J F B X hC T hk hdp hun S hq hiD hid hin (fun k ks ln m t ys c t2 h tk a1 a2 a3 a4 a5 => wpAny_mono (turn k ks ln m t ys c t2 h tk a1 a2 a3 a4 a5) (fun _ s₂ h₂ => wpAny_mono h₂ (fun f s₃ h₃ => ?_) fun _ _ e => e) fun _ _ e => e) done hE h0 hys hlen N
  cases f with
  | next => exact h₃
  | cont => exact h₃
  | brk => exact h₃
  | ret v => exact h₃
end
end Mine
end
section
open PySem PySem.W PyProof.Rows PySem.Calls PySem.Spec PyProof.V
set_option maxRecDepth 100000
set_option maxHeartbeats 4000000
namespace Mine
local macro_rules | `(tactic| walk_at $s:str) => `(tactic| k_extra $s)
local macro_rules | `(tactic| k_mem) => `(tactic| assumption)
local macro_rules | `(tactic| k_room) => `(tactic| ktr_room)
local macro_rules | `(tactic| k_all) => `(tactic| first | assumption | (intro p9 hp9; have h9 := NB.at (by assumption) hp9; (refine neN ?_); (try dsimp only); omega))
theorem tok_pop {w : World} {loose : List Str} {mean : ExcName → Option Value} {mg mb : Str → Option Value}
  {dp un : Nat} {gd : Option (List Code)} {cn : Str} {cs : Scope} {a : Addr} {ccd : Value} {cl : List (Str × Addr)} {outer : List Env} {A₀ : Around} {base h₀ : Heap} {L : Addr} {m : Str → Option Value} {news : List (Addr × Obj)} {s : Shared} {Q E : Value → Shared → Prop}
  {pb lx dd st : Nat} {v : Value} {r : List Value} {n : Nat} {ln : Int} {t1 t2 t3 t4 t5 t6 : Tok}
  (B : Below A₀ base outer h₀) (F : Fr h₀ L s.heap m) (X : (frag.heap_1 w.params).In h₀) (N : News h₀ L s.heap ((pb, listOf (v :: r).toArray n) :: news)) (T : Top topProg loose mean mg mb h₀) (hk : cs.kind = .function)
  (hdp : dp + 8 < recursionLimit) (hun : un + 64 < cLine)
  (hdd : (dd, lexDict w ln st pb t1 t2 t3 t4 t5 t6) ∈ news) (hlx : (lx, instObj 66 dd) ∈ news) (hpb : ∀ p ∈ news, p.1 ≠ pb) (hz : r.length ≤ 100000)
  (hret : ∀ h' tk', Fr h₀ L h' m → News h₀ L h' ((pb, listOf r.toArray (n + 1)) :: news) → Q v { s with heap := h', toks := tk' }) :
  wpAny (model PySem.Challenge.rw_qc0004_01.row.prog w) (ktrTop dp un gd cn cs L a ccd cl outer) (call (.ref 56) [.ref lx]) Q E s := by
  w_strict (
    w_top off
    k_with_none
    k_with "execs cons" => (k_here; (rename Fr _ _ _ _ => lF'); (fail_if_success (with_reducible have h9 : Fr _ _ _ m9 := lF')); k_dflt (refine (let m9 : Str → Option Value := _; have F9 : Fr _ _ _ m9 := lF'; ?_)); clear lF')
    k_with "execs cons" => (k_here; (fail_if_success (with_reducible show wpAny _ _ _ Q9 _ _)); k_dflt (refine (let Q9 : Flow → Shared → Prop := _; let E9 : Value → Shared → Prop := _; (show wpAny _ _ (execs _ _) Q9 E9 _ from ?_))))
    k_with "truthy ref" => ((k_here; (with_reducible show wpAny _ _ (truthy (Value.ref _)) _ _ _); k_dflt (first | (refine truthy_cons (by k_asm) (List.Mem.head _) (by assumption) ?_) | (refine truthy_nil (by k_asm) (by k_mem) ?_)); intro tk9))
    k_with "call builtin:list.pop" => ((k_here; (with_reducible show wpAny _ _ (call (Value.builtin "list.pop") [Value.ref _, Value.int _ _]) _ _ _); k_dflt (refine pop0 (by k_asm) (by k_asm) (by k_upd) (by assumption) ?_; k_whole); intro h' F' N'; (try k_sweep)))
    revert X; k_fill; intro X
    refine wpAny_call ?_
    k_dflt ktr_enter
    k_steps
    rename Fr h₀ L _ m => F6
    rename News h₀ L _ _ => N6
    exact hret _ _ F6 N6)
theorem push_spec {w : World} {loose : List Str} {mean : ExcName → Option Value} {mg mb : Str → Option Value}
  {dp un : Nat} {gd : Option (List Code)} {cn : Str} {cs : Scope} {a : Addr} {ccd : Value} {cl : List (Str × Addr)} {outer : List Env} {A₀ : Around} {base h₀ : Heap} {L : Addr} {m : Str → Option Value} {news : List (Addr × Obj)} {s : Shared} {Q E : Value → Shared → Prop}
  {pb lx dd st : Nat} {x : Str} {t : Tok} {r : List Value} {n : Nat} {ln : Int} {t1 t2 t3 t4 t5 t6 : Tok}
  (B : Below A₀ base outer h₀) (F : Fr h₀ L s.heap m) (X : (frag.heap_1 w.params).In h₀) (N : News h₀ L s.heap ((pb, listOf r.toArray n) :: news)) (T : Top topProg loose mean mg mb h₀) (hk : cs.kind = .function)
  (hdp : dp + 8 < recursionLimit) (hun : un + 64 < cLine)
  (hdd : (dd, lexDict w ln st pb t1 t2 t3 t4 t5 t6) ∈ news) (hlx : (lx, instObj 66 dd) ∈ news) (hpb : ∀ p ∈ news, p.1 ≠ pb) (hz : r.length ≤ 1000)
  (hret : ∀ h' tk' n', Fr h₀ L h' m → News h₀ L h' ((pb, listOf (r ++ [Value.str x t]).toArray n') :: news) → Q .none { s with heap := h', toks := tk' }) :
  wpAny (model PySem.Challenge.rw_qc0004_01.row.prog w) (ktrTop dp un gd cn cs L a ccd cl outer) (call (.ref 63) [.ref lx, .str x t]) Q E s := by
  w_strict (
    w_top off
    k_with_none
    k_with "execs cons" => (k_here; (rename Fr _ _ _ _ => lF'); (fail_if_success (with_reducible have h9 : Fr _ _ _ m9 := lF')); k_dflt (refine (let m9 : Str → Option Value := _; have F9 : Fr _ _ _ m9 := lF'; ?_)); clear lF')
    k_with "execs cons" => (k_here; (fail_if_success (with_reducible show wpAny _ _ _ Q9 _ _)); k_dflt (refine (let Q9 : Flow → Shared → Prop := _; let E9 : Value → Shared → Prop := _; (show wpAny _ _ (execs _ _) Q9 E9 _ from ?_))))
    k_with "truthy ref" => ((k_here; (with_reducible show wpAny _ _ (truthy (Value.ref _)) _ _ _); k_dflt (first | (refine truthy_cons (by k_asm) (List.Mem.head _) (by assumption) ?_) | (refine truthy_nil (by k_asm) (by k_mem) ?_)); intro tk9))
    k_with "call builtin:list.pop" => ((k_here; (with_reducible show wpAny _ _ (call (Value.builtin "list.pop") [Value.ref _, Value.int _ _]) _ _ _); k_dflt (refine pop0 (by k_asm) (by k_asm) (by k_upd) (by assumption) ?_; k_whole); intro h' F' N'; (try k_sweep)))
    revert X; k_fill; intro X
    refine wpAny_call ?_
    k_dflt ktr_enter
    k_steps
    rename Fr h₀ L _ m => F6
    rename News h₀ L _ _ => N6
    rw [List.push_toArray] at N6
    exact hret _ _ _ F6 N6)
end Mine
end
section
open PySem PySem.W PyProof.Rows PySem.Calls PySem.Spec PyProof.V
set_option maxRecDepth 100000
namespace Mine
@[irreducible] def wS : Nat → Str
  | 0 => Str.ofString "" | 1 => Str.ofString "e" | 2 => Str.ofString "f" | 3 => Str.ofString "ef" | _ => Str.ofString "fe"
@[irreducible] def hS (b : Bool) : Str := if b then Str.ofString "e" else Str.ofString "f"
@[irreducible] def toldS (i : Nat) (b : Bool) : Str := rp (rp (rp (rp (wS i ++ hS b) (Str.ofString "efe") (Str.ofString "e")) (Str.ofString "fef") (Str.ofString "f")) (Str.ofString "ee") (Str.ofString "oe")) (Str.ofString "ff") (Str.ofString "of")
def nx (i : Nat) (b : Bool) : Nat := match i, b with
  | 0, true => 1 | 1, true => 1 | 2, true => 4 | 3, true => 1 | _, true => 4
  | 0, false => 2 | 1, false => 3 | 2, false => 2 | 3, false => 3 | _, false => 2
def rg (i : Nat) (b : Bool) : Bool := match i, b with
  | 1, true => true | 4, true => true | 2, false => true | 3, false => true | _, _ => false
theorem nx_lt {i : Nat} {b : Bool} (hi : i < 5) : nx i b < 5 := by revert hi; cases b <;> revert i <;> decide
theorem wS_inj {i j : Nat} (hi : i < 5) (hj : j < 5) (e : wS i = wS j) : i = j := by
  have : ∀ i < 5, ∀ j < 5, wS i = wS j → i = j := by decide +kernel
  exact this i hi j hj e
theorem wS_len {i : Nat} (hi : i < 5) : (wS i).length ≤ 2 := by
  have : ∀ i < 5, (wS i).length ≤ 2 := by decide +kernel
  exact this i hi
theorem hS_len (b : Bool) : (hS b).length = 1 := by cases b <;> decide +kernel
theorem told_len {i : Nat} {b : Bool} (hi : i < 5) : (toldS i b).length ≤ 64 := by
  have : ∀ i < 5, ∀ b, (toldS i b).length ≤ 64 := by decide +kernel
  exact this i hi b
theorem told_rp {i : Nat} {b : Bool} (hi : i < 5) : rp (toldS i b) (Str.ofString "o") (Str.ofString "") = wS (nx i b) := by
  have : ∀ i < 5, ∀ b, rp (toldS i b) (Str.ofString "o") (Str.ofString "") = wS (nx i b) := by decide +kernel
  exact this i hi b
theorem told_eq {i : Nat} {b : Bool} (hi : i < 5) : (wS (nx i b) == toldS i b) = !rg i b := by
  have : ∀ i < 5, ∀ b, (wS (nx i b) == toldS i b) = !rg i b := by decide +kernel
  exact this i hi b
def smB (x p r : Str) : Bool := ((Txt.split x p).map (·.length)).sum + (Txt.split x p).length * r.length ≤ 16777216
theorem sm_of {x p r : Str} (h : smB x p r = true) : Sm x p r := by unfold Sm; unfold smB at h; exact of_decide_eq_true h
theorem told_pre : ∀ i < 5, ∀ b, ((wS i ++ hS b).length ≤ 64 ∧ smB (wS i ++ hS b) (Str.ofString "efe") (Str.ofString "e") = true ∧ (rp (wS i ++ hS b) (Str.ofString "efe") (Str.ofString "e")).length ≤ 64 ∧ smB (rp (wS i ++ hS b) (Str.ofString "efe") (Str.ofString "e")) (Str.ofString "fef") (Str.ofString "f") = true ∧ (rp (rp (wS i ++ hS b) (Str.ofString "efe") (Str.ofString "e")) (Str.ofString "fef") (Str.ofString "f")).length ≤ 64 ∧ smB (rp (rp (wS i ++ hS b) (Str.ofString "efe") (Str.ofString "e")) (Str.ofString "fef") (Str.ofString "f")) (Str.ofString "ee") (Str.ofString "oe") = true ∧ (rp (rp (rp (wS i ++ hS b) (Str.ofString "efe") (Str.ofString "e")) (Str.ofString "fef") (Str.ofString "f")) (Str.ofString "ee") (Str.ofString "oe")).length ≤ 64 ∧ smB (rp (rp (rp (wS i ++ hS b) (Str.ofString "efe") (Str.ofString "e")) (Str.ofString "fef") (Str.ofString "f")) (Str.ofString "ee") (Str.ofString "oe")) (Str.ofString "ff") (Str.ofString "of") = true) ∧ smB (toldS i b) (Str.ofString "o") (Str.ofString "") = true := by decide +kernel

theorem rep_told {w : World} {loose : List Str} {mean : ExcName → Option Value} {mg mb : Str → Option Value}
  {dp un : Nat} {gd : Option (List Code)} {cn : Str} {cs : Scope} {a : Addr} {ccd : Value} {cl : List (Str × Addr)} {outer : List Env} {A₀ : Around} {base h₀ : Heap} {L : Addr} {m : Str → Option Value} {news news' : List (Addr × Obj)} {s : Shared} {Q E : Value → Shared → Prop}
  (B : Below A₀ base outer h₀) (F : Fr h₀ L s.heap m) (X : (frag.heap_1 w.params).In h₀) (N : News h₀ L s.heap news) (T : Top topProg loose mean mg mb h₀) (hk : cs.kind = .function)
  (hdp : dp + 8 < recursionLimit) (hun : un + 64 < cLine) {t0 t1 t2 t3 t4 t5 t6 t7 t8 : Tok} {i : Nat} {b : Bool} (hi : i < 5)
  (hret : ∀ t h' tk', Fr h₀ L h' m → News h₀ L h' news → Q (.str (toldS i b) t) { s with heap := h', toks := tk' }) :
  wpAny (model PySem.Challenge.rw_qc0004_01.row.prog w) (ktrTop dp un gd cn cs L a ccd cl outer) (call (.ref 77) [.str (wS i ++ hS b) t0, .str (Str.ofString "efe") t1, .str (Str.ofString "e") t2, .str (Str.ofString "fef") t3, .str (Str.ofString "f") t4, .str (Str.ofString "ee") t5, .str (Str.ofString "oe") t6, .str (Str.ofString "ff") t7, .str (Str.ofString "of") t8]) Q E s := by
  obtain ⟨⟨p1, p2, p3, p4, p5, p6, p7, p8⟩, _⟩ := told_pre i hi b
  refine rep8_spec dp un gd cn cs a ccd cl outer A₀ base h₀ L m news s Q E B F X N T hk hdp hun t0 t1 t2 t3 t4 t5 t6 t7 t8 _ p1 (sm_of p2) p3 (sm_of p4) p5 (sm_of p6) p7 (sm_of p8) ?_
  intro t h' tk' F' N'
  have := hret t h' tk' F' N'
  unfold toldS at this
  exact this
theorem rep_name {w : World} {loose : List Str} {mean : ExcName → Option Value} {mg mb : Str → Option Value}
  {dp un : Nat} {gd : Option (List Code)} {cn : Str} {cs : Scope} {a : Addr} {ccd : Value} {cl : List (Str × Addr)} {outer : List Env} {A₀ : Around} {base h₀ : Heap} {L : Addr} {m : Str → Option Value} {news news' : List (Addr × Obj)} {s : Shared} {Q E : Value → Shared → Prop}
  (B : Below A₀ base outer h₀) (F : Fr h₀ L s.heap m) (X : (frag.heap_1 w.params).In h₀) (N : News h₀ L s.heap news) (T : Top topProg loose mean mg mb h₀) (hk : cs.kind = .function)
  (hdp : dp + 8 < recursionLimit) (hun : un + 64 < cLine) {t0 t1 t2 : Tok} {i : Nat} {b : Bool} (hi : i < 5)
  (hret : ∀ t h' tk', Fr h₀ L h' m → News h₀ L h' news → Q (.str (wS (nx i b)) t) { s with heap := h', toks := tk' }) :
  wpAny (model PySem.Challenge.rw_qc0004_01.row.prog w) (ktrTop dp un gd cn cs L a ccd cl outer) (call (.ref 77) [.str (toldS i b) t0, .str (Str.ofString "o") t1, .str (Str.ofString "") t2]) Q E s := by
  refine rep1_spec dp un gd cn cs a ccd cl outer A₀ base h₀ L m news s Q E B F X N T hk hdp hun t0 t1 t2 _ (told_len hi) (sm_of (told_pre i hi b).2) ?_
  intro t h' tk' F' N'
  rw [told_rp hi]
  exact hret t h' tk' F' N'
theorem pop_U {w : World} {loose : List Str} {mean : ExcName → Option Value} {mg mb : Str → Option Value} {dp un : Nat} {gd : Option (List Code)} {cn : Str} {cs : Scope} {a : Addr} {ccd : Value}
    {cl : List (Str × Addr)} {outer : List Env} {A₀ : Around} {base h₀ : Heap} {L : Addr} {m : Str → Option Value} {news news' : List (Addr × Obj)} {s : Shared} {Q E : Value → Shared → Prop}
    {pb lx dd st : Nat} {v : Value} {r : List Value} {n : Nat} {ln : Int} {t1 t2 t3 t4 t5 t6 : Tok} (B : Below A₀ base outer h₀) (F : Fr h₀ L s.heap m) (X : (frag.heap_1 w.params).In h₀)
    (N : News h₀ L s.heap news) (T : Top topProg loose mean mg mb h₀) (hk : cs.kind = .function) (hdp : dp + 8 < recursionLimit) (hun : un + 64 < cLine) (hlx : (lx, instObj 66 dd) ∈ news)
    (hdd : (dd, lexDict w ln st pb t1 t2 t3 t4 t5 t6) ∈ news) (U : Upd pb (listOf (v :: r).toArray n) (listOf r.toArray (n + 1)) news news') (hdb : dd ≠ pb) (hlb : lx ≠ pb) (hz : r.length ≤ 100000)
    (hret : ∀ h' tk', Fr h₀ L h' m → News h₀ L h' news' → Q v { s with heap := h', toks := tk' }) :
  wpAny (model PySem.Challenge.rw_qc0004_01.row.prog w) (ktrTop dp un gd cn cs L a ccd cl outer) (call (.ref 56) [.ref lx]) Q E s := by
  obtain ⟨pre, post, rfl, rfl, h1, h2⟩ := U.split
  have hm : ∀ {p : Addr × Obj}, p ∈ pre ++ (pb, listOf (v :: r).toArray n) :: post → p.1 ≠ pb → p ∈ pre ++ post := by
    intro p hp hne
    rcases List.mem_append.mp hp with h | h
    · exact List.mem_append_left _ h
    · rcases List.mem_cons.mp h with rfl | h
      · exact absurd rfl hne
      · exact List.mem_append_right _ h
  refine tok_pop (news := pre ++ post) (n := n) B F X (N.perm fun p hp => ?_) T hk hdp hun (hm hdd hdb) (hm hlx hlb) (fun p hp => ?_) hz fun h' tk' F' N' => hret h' tk' F' (N'.perm fun p hp => ?_)
  · rcases List.mem_cons.mp hp with rfl | hp
    · exact List.mem_append_right _ (.head _)
    · rcases List.mem_append.mp hp with h | h
      · exact List.mem_append_left _ h
      · exact List.mem_append_right _ (.tail _ h)
  · rcases List.mem_append.mp hp with h | h
    · exact h1 p h
    · exact h2 p h
  · rcases List.mem_append.mp hp with h | h
    · exact .tail _ (List.mem_append_left _ h)
    · rcases List.mem_cons.mp h with rfl | h
      · exact .head _
      · exact .tail _ (List.mem_append_right _ h)
theorem push_U {w : World} {loose : List Str} {mean : ExcName → Option Value} {mg mb : Str → Option Value} {dp un : Nat} {gd : Option (List Code)} {cn : Str} {cs : Scope} {a : Addr} {ccd : Value}
    {cl : List (Str × Addr)} {outer : List Env} {A₀ : Around} {base h₀ : Heap} {L : Addr} {m : Str → Option Value} {news news' : List (Addr × Obj)} {s : Shared} {Q E : Value → Shared → Prop}
    {pb lx dd st : Nat} {x : Str} {t : Tok} {r : List Value} {n : Nat} {ln : Int} {t1 t2 t3 t4 t5 t6 : Tok} {g : Obj → List (Addr × Obj)} (B : Below A₀ base outer h₀) (F : Fr h₀ L s.heap m)
    (X : (frag.heap_1 w.params).In h₀) (N : News h₀ L s.heap news) (T : Top topProg loose mean mg mb h₀) (hk : cs.kind = .function) (hdp : dp + 8 < recursionLimit) (hun : un + 64 < cLine)
    (hlx : (lx, instObj 66 dd) ∈ news) (hdd : (dd, lexDict w ln st pb t1 t2 t3 t4 t5 t6) ∈ news) (U : UpdF pb (listOf r.toArray n) news g) (hdb : dd ≠ pb) (hlb : lx ≠ pb) (hz : r.length ≤ 1000)
    (hret : ∀ h' tk' n', Fr h₀ L h' m → News h₀ L h' (g (listOf (r ++ [Value.str x t]).toArray n')) → Q .none { s with heap := h', toks := tk' }) :
  wpAny (model PySem.Challenge.rw_qc0004_01.row.prog w) (ktrTop dp un gd cn cs L a ccd cl outer) (call (.ref 63) [.ref lx, .str x t]) Q E s := by
  obtain ⟨pre, post, rfl, hg, h1, h2⟩ := U.split
  have hm : ∀ {p : Addr × Obj}, p ∈ pre ++ (pb, listOf r.toArray n) :: post → p.1 ≠ pb → p ∈ pre ++ post := by
    intro p hp hne
    rcases List.mem_append.mp hp with h | h
    · exact List.mem_append_left _ h
    · rcases List.mem_cons.mp h with rfl | h
      · exact absurd rfl hne
      · exact List.mem_append_right _ h
  refine push_spec (news := pre ++ post) (n := n) B F X (N.perm fun p hp => ?_) T hk hdp hun (hm hdd hdb) (hm hlx hlb) (fun p hp => ?_) hz fun h' tk' n' F' N' => hret h' tk' n' F' (N'.perm fun p hp => ?_)
  · rcases List.mem_cons.mp hp with rfl | hp
    · exact List.mem_append_right _ (.head _)
    · rcases List.mem_append.mp hp with h | h
      · exact List.mem_append_left _ h
      · exact List.mem_append_right _ (.tail _ h)
  · rcases List.mem_append.mp hp with h | h
    · exact h1 p h
    · exact h2 p h
  · rw [hg] at hp
    rcases List.mem_append.mp hp with h | h
    · exact .tail _ (List.mem_append_left _ h)
    · rcases List.mem_cons.mp h with rfl | h
      · exact .head _
      · exact .tail _ (List.mem_append_right _ h)
end Mine
end
section
open PySem PySem.W PyProof.Rows PySem.Calls PySem.Spec PyProof.V
set_option maxRecDepth 100000
set_option maxHeartbeats 8000000
namespace Mine
local macro_rules | `(tactic| walk_at "my.pad0") => `(tactic| skip)
local macro_rules | `(tactic| walk_at $s:str) => `(tactic| k_extra $s)
local macro_rules | `(tactic| k_mem) => `(tactic| assumption)
theorem add_spec {w : World} {loose : List Str} {mean : ExcName → Option Value} {mg mb : Str → Option Value}
  (dp un : Nat) (gd : Option (List Code)) (cn : Str) (cs : Scope) (a : Addr) (ccd : Value) (cl : List (Str × Addr)) (outer : List Env) (A₀ : Around) (base h₀ : Heap) (L : Addr) (m : Str → Option Value) (news : List (Addr × Obj)) (s : Shared) (Q E : Value → Shared → Prop)
  (B : Below A₀ base outer h₀) (F : Fr h₀ L s.heap m) (X : (frag.heap_1 w.params).In h₀) (N : News h₀ L s.heap news) (T : Top topProg loose mean mg mb h₀) (hk : cs.kind = .function)
  (t u : Addr) (ot ou : Obj) (ht : (t, ot) ∈ news) (hu : (u, ou) ∈ news) (hlt : (t == sysModules) = false) (hlu : (u == sysModules) = false) (hd : dp + 8 < recursionLimit) (hun : un + 64 < cLine) (ct cu : List (Int × Int)) (hot : IntD w ot ct) (hou : IntD w ou cu)
  (hz : ct.length + cu.length ≤ 8000000)
  (hret : ∀ d o h' tk', Fr h₀ L h' m → News h₀ L h' ((d, o) :: news) → (∀ p ∈ news, p.1 < d) → (d == sysModules) = false → IntD w o (addC ct cu) → Q (.ref d) { s with heap := h', toks := tk' }) :
  wpAny (model PySem.Challenge.rw_qc0004_01.row.prog w) (ktrTop dp un gd cn cs L a ccd cl outer) (call (.ref 21) [.ref t, .ref u]) Q E s := by
  obtain ⟨kt, hot, hft⟩ := hot
  obtain ⟨ku, hou, hfu⟩ := hou
  w_strict (
    w_top off
    k_with_none
    k_with "execs cons" => (k_here; (rename Fr _ _ _ _ => lF'); (fail_if_success (with_reducible have h9 : Fr _ _ _ m9 := lF')); k_dflt (refine (let m9 : Str → Option Value := _; have F9 : Fr _ _ _ m9 := lF'; ?_)); clear lF')
    k_with "execs cons" => (k_here; (fail_if_success (with_reducible show wpAny _ _ _ Q9 _ _)); k_dflt (refine (let Q9 : Flow → Shared → Prop := _; let E9 : Value → Shared → Prop := _; (show wpAny _ _ (execs _ _) Q9 E9 _ from ?_))))
    k_with "getItem ref int" => ((k_here; (with_reducible show wpAny _ _ (getItem (Value.ref _) (Value.int _ _)) _ _ _); k_dflt (refine kdf_getItem (by k_tabat) (by assumption) ?_); intro tg))
    k_with "my.items" => (((rename Fr _ _ _ _ => lF'); (rename News _ _ _ _ => lN'); with_unfolding_all ((refine' For_turns lF' ?_); k_whole; (refine MethodCall_ ?_); (refine ld lF' (by rfl) ?_); (refine getMethod_tab (knd := PySem.intKind _ _) (enc := PyData.int) PySem.F.slot_dict_items PySem.F.type_dict_items (by k_tabat) ?_); (refine callWith_method0 ?_); (refine call_items_tab (knd := PySem.intKind _ _) (enc := PyData.int) (by k_tabat) lF' lN' ?_); intro h' o' hv' F' N'; (replace N' := kti_tail N'); (refine kti_items (knd := PySem.intKind _ _) (enc := PyData.int) (by rfl) F' N' hv' (by k_tabat) (by k_mem) (fun _ _ h => Value.isInt_shape h) (kdf_map _) ?_)); clear lF' lN'))
    revert X; k_fill; intro X
    refine wpAny_call ?_
    k_dflt ktr_enter
    k_steps
    rename Addr => d9
    rename ∀ p ∈ news, p.1 < d9 => l9
    walk_at "my.items"
    intro i' l1
    refine items_ind (α := Int × Int) _ (fun m₀ n₀ r m nw => ∃ vf vc o2 kvs c, m = (fun z => if z = Str.ofString "caller" then vc else if z = Str.ofString "func" then vf else m₀ z) ∧ nw = (d9, o2) :: news ∧ o2.IsDictOf (PySem.intKind PySem.Challenge.rw_qc0004_01.row.prog w) kvs ∧ FlatPairs PyData.int kvs (kdfD c) ∧ c.length + r.length ≤ ct.length ∧ putAll c r = putAll [] ct) ?_ ?_ ?_
    · exact ⟨_, _, _, _, [], upd2 _ _ _, rfl, by assumption, by assumption, by simp, rfl⟩
    · rintro ⟨k1, v1⟩ r m1 nw1 v h tk ⟨vf, vc, o2, kvs, c, rfl, rfl, hd2, hf2, hlen, hput⟩ hv F1
      dsimp only [Itm.Is] at hv
      obtain ⟨T1, t1, x1, rfl, hx1, hT1⟩ := hv
      obtain ⟨t2, rfl⟩ := PyProof.V.Flat.int_inv hx1
      ktu_objs
      have hz2 : c.length ≤ 16777216 := by simp at hlen; omega
      have hi9 : i' ≠ d9 := Nat.ne_of_gt (l1 (d9, _) (.head _))
      k_steps
      (rename Fr _ _ _ _ => F3); (rename News _ _ _ _ => N3)
      refine ⟨_, _, _, (d9, _) :: news, rfl, F3, N3, offI l1 rfl, ⟨.tail _ ht, trivial⟩, _, _, _, _, _, upd22 _ _ _ _ _ _ _, rfl, by assumption, by assumption, ?_, ?_⟩
      · have := kdfPut_len c k1 v1; simp at hlen ⊢; omega
      · exact hput
    · rintro m1 nw1 h tk ⟨vf, vc, o2, kvs, c, rfl, rfl, hd2, hf2, hlen, hput⟩ F1 N1
      have hput : c = putAll [] ct := hput
      dsimp only
      k_steps
      walk_at "my.items"
      intro i2 l2
      have hc0 : c.length ≤ ct.length := by simpa using hlen
      refine items_ind (α := Int × Int) _ (fun m₀ n₀ r m nw => ∃ vf vc o2 kvs e, m = (fun z => if z = Str.ofString "caller" then vc else if z = Str.ofString "func" then vf else m₀ z) ∧ nw = (d9, o2) :: news ∧ o2.IsDictOf (PySem.intKind PySem.Challenge.rw_qc0004_01.row.prog w) kvs ∧ FlatPairs PyData.int kvs (kdfD e) ∧ e.length + r.length ≤ ct.length + cu.length ∧ r.foldl addStep e = addC ct cu) ?_ ?_ ?_
      · exact ⟨_, _, _, _, c, upd2 _ _ _, rfl, by assumption, by assumption, by omega, by rw [hput]; rfl⟩
      · rintro ⟨k1, v1⟩ r m1 nw1 v h tk ⟨vf, vc, o2, kvs, e, rfl, rfl, hd2, hf2, hlen, hput⟩ hv F1
        dsimp only [Itm.Is] at hv
        obtain ⟨T1, t1, x1, rfl, hx1, hT1⟩ := hv
        obtain ⟨t2, rfl⟩ := PyProof.V.Flat.int_inv hx1
        ktu_objs
        have hz2 : e.length ≤ 16777216 := by simp at hlen; omega
        have hi9 : i2 ≠ d9 := Nat.ne_of_gt (l2 (d9, _) (.head _))
        k_steps
        · (rename Fr _ _ _ _ => F3); (rename News _ _ _ _ => N3)
          have hb : kdfHas e k1 = true := by assumption
          refine ⟨_, _, _, (d9, _) :: news, rfl, F3, N3, offI l2 rfl, ⟨.tail _ hu, trivial⟩, _, _, _, _, _, upd22 _ _ _ _ _ _ _, rfl, by assumption, by assumption, ?_, ?_⟩
          · have := kdfPut_len e k1 (kdfLook e k1 0 + v1); simp at hlen ⊢; omega
          · simpa [addStep, hb] using hput
        · (rename Fr _ _ _ _ => F3); (rename News _ _ _ _ => N3)
          have hb : kdfHas e k1 = false := by assumption
          refine ⟨_, _, _, (d9, _) :: news, rfl, F3, N3, offI l2 rfl, ⟨.tail _ hu, trivial⟩, _, _, _, _, _, upd22 _ _ _ _ _ _ _, rfl, by assumption, by assumption, ?_, ?_⟩
          · have := kdfPut_len e k1 v1; simp at hlen ⊢; omega
          · simpa [addStep, hb] using hput
      · rintro m1 nw1 h tk ⟨vf, vc, o2, kvs, e, rfl, rfl, hd2, hf2, hlen, hput⟩ F1 N1
        have hput : e = addC ct cu := hput
        subst hput
        dsimp only
        k_steps
        exact hret d9 _ _ _ (by k_asm) (by k_asm) l9 (by assumption) ⟨_, hd2, hf2⟩)
end Mine
end
section
open PySem PySem.W PyProof.Rows PySem.Calls PySem.Spec PyProof.V
set_option maxRecDepth 100000
namespace Mine
/-- two lists, item by item -/
inductive All2 {α β : Type} (R : α → β → Prop) : List α → List β → Prop
  | nil : All2 R [] []
  | cons {a b as bs} : R a b → All2 R as bs → All2 R (a :: as) (b :: bs)
theorem All2.mono {α β : Type} {R S : α → β → Prop} {as : List α} {bs : List β} (h : All2 R as bs) (hs : ∀ a b, R a b → S a b) : All2 S as bs := by
  induction h with
  | nil => exact .nil
  | cons h _ ih => exact .cons (hs _ _ h) ih
theorem All2.length {α β : Type} {R : α → β → Prop} {as : List α} {bs : List β} (h : All2 R as bs) : as.length = bs.length := by
  induction h with
  | nil => rfl
  | cons _ _ ih => simp [ih]
theorem All2.append {α β : Type} {R : α → β → Prop} {as as' : List α} {bs bs' : List β} (h : All2 R as bs) (h' : All2 R as' bs') : All2 R (as ++ as') (bs ++ bs') := by
  induction h with
  | nil => exact h'
  | cons h _ ih => exact .cons h ih

abbrev Tab := List (Nat × List (Int × Int))
def lk : Tab → Nat → Option (List (Int × Int))
  | [], _ => none
  | p :: r, i => if p.1 = i then some p.2 else lk r i
def upd (i : Nat) (c : List (Int × Int)) : Tab → Tab
  | [] => []
  | p :: r => (if p.1 = i then (p.1, c) else p) :: upd i c r
def putT (t : Tab) (i : Nat) (c : List (Int × Int)) : Tab := if (lk t i).isSome then upd i c t else t ++ [(i, c)]
def ks (t : Tab) : List Nat := t.map (·.1)
def shK (d : Int) (p : Int × Int) : Int × Int := (p.1 + d, p.2)
def shN (d : Int) (p : Int × Int) : Int × Int := (p.1 + d, -p.2)
def shS (d : Int) (p : Int × Int) : Int × Int := (p.1 - d, p.2)
def shM (d : Int) (p : Int × Int) : Int × Int := (p.1 - d, -p.2)
def joinC (st : Int) (c : List (Int × Int)) : List (Int × Int) := putAll [] (c.map (shS st))
def ringC (j : List (Int × Int)) : List (Int × Int) := addC (putAll [] (j.map (shN 2))) (putAll [] (j.map (shM 2)))
def gain1 (st : Int) (c : List (Int × Int)) : List (Int × Int) := putAll [] (c.map (shK st))
def gain2 (i : Nat) (b : Bool) (st : Int) (c : List (Int × Int)) : List (Int × Int) := if rg i b then ringC (joinC st c) else joinC st c
def grow (G : Tab) (i : Nat) (g : List (Int × Int)) : Tab := putT G i (addC ((lk G i).getD []) g)
def oneW (tb : Tab) (b : Bool) (st : Int) (G : Tab) (i : Nat) : Tab :=
  match lk tb i with
  | none => G
  | some c => grow (grow G i (gain1 st c)) (nx i b) (gain2 i b st c)
def smallT (t : Tab) : Bool := decide (t.length ≤ 5) && t.all fun p => decide (p.1 < 5) && decide (p.2.length ≤ 1000)
def okR (tb : Tab) (b : Bool) (st : Int) : List Nat → Tab → Bool
  | [], G => smallT G
  | i :: r, G => smallT G && (match lk tb i with
    | none => false
    | some c => smallT (grow G i (gain1 st c))) && decide (i < 5) && okR tb b st r (oneW tb b st G i)
def rnd (tb : Tab) (b : Bool) (st : Int) : Tab := (ks tb).foldl (oneW tb b st) []
def bOf (k : Nat) : Bool := k == 34 || k == 92
def stOf (k : Nat) : Int := if k == 34 || k == 32 then 1 else -1
def okU : List Nat → Tab → Bool
  | [], tb => smallT tb
  | k :: r, tb => smallT tb && okR tb (bOf k) (stOf k) (ks tb) [] && okU r (rnd tb (bOf k) (stOf k))
def unf (l : List Nat) (tb : Tab) : Tab := l.foldl (fun tb k => rnd tb (bOf k) (stOf k)) tb

theorem upd_ks (i : Nat) (c : List (Int × Int)) : ∀ t : Tab, ks (upd i c t) = ks t
  | [] => rfl
  | p :: r => by
    show (if p.1 = i then (p.1, c) else p).1 :: ks (upd i c r) = p.1 :: ks r
    rw [upd_ks i c r]; split <;> rfl
theorem putT_ks {t : Tab} {i : Nat} {c : List (Int × Int)} : ks (putT t i c) = if (lk t i).isSome then ks t else ks t ++ [i] := by
  unfold putT
  split
  · exact upd_ks _ _ _
  · simp [ks]
theorem smallT.len {t : Tab} (h : smallT t = true) : t.length ≤ 5 := by unfold smallT at h; simp at h; exact h.1
theorem smallT.key {t : Tab} (h : smallT t = true) {p : Nat × List (Int × Int)} (hp : p ∈ t) : p.1 < 5 := by unfold smallT at h; simp at h; exact (h.2 _ _ hp).1
theorem smallT.row {t : Tab} (h : smallT t = true) {p : Nat × List (Int × Int)} (hp : p ∈ t) : p.2.length ≤ 1000 := by unfold smallT at h; simp at h; exact (h.2 _ _ hp).2
theorem lk_mem : ∀ {t : Tab} {i : Nat} {c : List (Int × Int)}, lk t i = some c → (i, c) ∈ t
  | [], _, _, h => nomatch h
  | p :: r, i, c, h => by
    unfold lk at h
    split at h
    · next e => injection h with h; subst e h; exact .head _
    · exact .tail _ (lk_mem h)

/-- one entry of a table's dict -/
def Ent (w : World) (news : List (Addr × Obj)) (kv : Str × Value) (p : Nat × List (Int × Int)) : Prop :=
  kv.1 = wS p.1 ∧ ∃ a oa, kv.2 = .ref a ∧ (a, oa) ∈ news ∧ (a == sysModules) = false ∧ IntD w oa p.2
def TabD (w : World) (news : List (Addr × Obj)) (o : Obj) (t : Tab) : Prop :=
  ∃ kvs, o.IsDictOf (PySem.strKind PySem.Challenge.rw_qc0004_01.row.prog w) kvs ∧ All2 (Ent w news) kvs t
theorem TabD.mono {w : World} {news news' : List (Addr × Obj)} {o : Obj} {t : Tab} (h : TabD w news o t) (hs : ∀ p ∈ news, p ∈ news') : TabD w news' o t := by
  obtain ⟨kvs, hd, ha⟩ := h
  exact ⟨kvs, hd, ha.mono fun _ _ ⟨e, a, oa, h1, h2, h3⟩ => ⟨e, a, oa, h1, hs _ h2, h3⟩⟩

theorem ent_none {w : World} {news : List (Addr × Obj)} {kvs : List (Str × Value)} {t : Tab} (h : All2 (Ent w news) kvs t) {i : Nat} (hi : i < 5) (ht : ∀ p ∈ t, p.1 < 5) (hl : lk t i = none) : valueAt kvs (wS i) = none := by
  induction h with
  | nil => rfl
  | @cons kv p kvs t h _ ih =>
    unfold lk at hl
    split at hl
    · exact nomatch hl
    · next ne =>
      have hne : ¬ kv.1 = wS i := fun e => ne (wS_inj (ht p (.head _)) hi (h.1.symm.trans e))
      have := ih (fun q hq => ht q (.tail _ hq)) hl
      simpa [valueAt, List.find?_cons, hne] using this
theorem ent_some {w : World} {news : List (Addr × Obj)} {kvs : List (Str × Value)} {t : Tab} (h : All2 (Ent w news) kvs t) {i : Nat} (hi : i < 5) (ht : ∀ p ∈ t, p.1 < 5) {c : List (Int × Int)} (hl : lk t i = some c) :
    ∃ a oa, valueAt kvs (wS i) = some (.ref a) ∧ (a, oa) ∈ news ∧ (a == sysModules) = false ∧ IntD w oa c := by
  induction h with
  | nil => exact nomatch hl
  | @cons kv p kvs t h _ ih =>
    unfold lk at hl
    split at hl
    · next e =>
      injection hl with hl
      obtain ⟨e1, a, oa, h1, h2, h3, h4⟩ := h
      refine ⟨a, oa, ?_, h2, h3, hl ▸ h4⟩
      have : kv.1 = wS i := by rw [e1, e]
      simp [valueAt, List.find?_cons, this, h1]
    · next ne =>
      have hne : ¬ kv.1 = wS i := fun e => ne (wS_inj (ht p (.head _)) hi (h.1.symm.trans e))
      obtain ⟨a, oa, h1, h2⟩ := ih (fun q hq => ht q (.tail _ hq)) hl
      exact ⟨a, oa, by simpa [valueAt, List.find?_cons, hne] using h1, h2⟩
theorem ent_any {w : World} {news : List (Addr × Obj)} {kvs : List (Str × Value)} {t : Tab} (h : All2 (Ent w news) kvs t) {i : Nat} (hi : i < 5) (ht : ∀ p ∈ t, p.1 < 5) : kvs.any (fun kv => decide (kv.1 = wS i)) = (lk t i).isSome := by
  induction h with
  | nil => rfl
  | @cons kv p kvs t h _ ih =>
    unfold lk
    split
    · next e =>
      have : kv.1 = wS i := by rw [h.1, e]
      simp [this]
    · next ne =>
      have hne : ¬ kv.1 = wS i := fun e => ne (wS_inj (ht p (.head _)) hi (h.1.symm.trans e))
      simpa [hne] using ih fun q hq => ht q (.tail _ hq)
theorem ent_upd {w : World} {news : List (Addr × Obj)} {kvs : List (Str × Value)} {t : Tab} (h : All2 (Ent w news) kvs t) {i : Nat} (hi : i < 5) (ht : ∀ p ∈ t, p.1 < 5) {c : List (Int × Int)} {a : Addr} {oa : Obj} (hm : (a, oa) ∈ news) (lo : (a == sysModules) = false) (hd : IntD w oa c) :
    All2 (Ent w news) (kvs.map fun kv => if kv.1 = wS i then (kv.1, Value.ref a) else kv) (upd i c t) := by
  induction h with
  | nil => exact .nil
  | @cons kv p kvs t h _ ih =>
    refine .cons ?_ (ih fun q hq => ht q (.tail _ hq))
    show Ent w news (if kv.1 = wS i then (kv.1, Value.ref a) else kv) (if p.1 = i then (p.1, c) else p)
    by_cases e : p.1 = i
    · have : kv.1 = wS i := by rw [h.1, e]
      rw [if_pos this, if_pos e]
      exact ⟨h.1, a, oa, rfl, hm, lo, hd⟩
    · have hne : ¬ kv.1 = wS i := fun e' => e (wS_inj (ht p (.head _)) hi (h.1.symm.trans e'))
      rw [if_neg hne, if_neg e]
      exact h
theorem ent_put {w : World} {news : List (Addr × Obj)} {kvs : List (Str × Value)} {t : Tab} (h : All2 (Ent w news) kvs t) {i : Nat} (hi : i < 5) (ht : ∀ p ∈ t, p.1 < 5) {c : List (Int × Int)} {a : Addr} {oa : Obj} (hm : (a, oa) ∈ news) (lo : (a == sysModules) = false) (hd : IntD w oa c) :
    All2 (Ent w news) (stored kvs (wS i) (.ref a)) (putT t i c) := by
  unfold stored putT
  rw [ent_any h hi ht]
  split
  · exact ent_upd h hi ht hm lo hd
  · exact h.append (.cons ⟨rfl, a, oa, rfl, hm, lo, hd⟩ .nil)

section
variable {prog : Program} {w : World} {A : Around} {E : Value → Shared → Prop} {s : Shared} {h₀ : Heap} {L : Addr} {m : Str → Option Value} {news : List (Addr × Obj)} {g : Obj → List (Addr × Obj)} {d : Addr} {o : Obj} {t : Tab} {i : Nat} {tk : Tok}
theorem tabd_in {Q : Value → Shared → Prop} {n2 : List (Addr × Obj)} (N : News h₀ L s.heap news) (hp : (d, o) ∈ news) (lo : (d == sysModules) = false) (T : TabD w n2 o t) (hs : smallT t = true) (hi : i < 5) (b : Bool) (hb : (lk t i).isSome = b) (h : Q (.bool b) { s with toks := s.toks + 1 }) :
    wpAny (model PySem.Challenge.rw_qc0004_01.row.prog w) A (compareOp .In (.str (wS i) tk) (.ref d)) Q E s := by
  obtain ⟨kvs, hd, ha⟩ := T
  refine kda_in (knd := PySem.strKind _ w) N hp hd lo (strKind_is _ _ _ _) b ?_ h
  cases hl : lk t i with
  | none => rw [ent_none ha hi (fun p hp => smallT.key hs hp) hl]; rw [hl] at hb; exact hb
  | some c => obtain ⟨a, oa, h1, _⟩ := ent_some ha hi (fun p hp => smallT.key hs hp) hl; rw [h1]; rw [hl] at hb; exact hb
theorem tabd_notin {Q : Value → Shared → Prop} {n2 : List (Addr × Obj)} (N : News h₀ L s.heap news) (hp : (d, o) ∈ news) (lo : (d == sysModules) = false) (T : TabD w n2 o t) (hs : smallT t = true) (hi : i < 5) (b : Bool) (hb : (lk t i).isSome = b) (h : Q (.bool (!b)) { s with toks := s.toks + 1 }) :
    wpAny (model PySem.Challenge.rw_qc0004_01.row.prog w) A (compareOp .NotIn (.str (wS i) tk) (.ref d)) Q E s := by
  obtain ⟨kvs, hd, ha⟩ := T
  refine kdg_notin (knd := PySem.strKind _ w) N hp hd lo (strKind_is _ _ _ _) b ?_ h
  cases hl : lk t i with
  | none => rw [ent_none ha hi (fun p hp => smallT.key hs hp) hl]; rw [hl] at hb; exact hb
  | some c => obtain ⟨a, oa, h1, _⟩ := ent_some ha hi (fun p hp => smallT.key hs hp) hl; rw [h1]; rw [hl] at hb; exact hb
theorem tabd_item {value slice : PySem.Expr} {Q : Value → Shared → Prop} {n2 : List (Addr × Obj)} {c : List (Int × Int)} (N : News h₀ L s.heap news) (hp : (d, o) ∈ news) (T : TabD w n2 o t) (hs : smallT t = true) (hi : i < 5) (hl : lk t i = some c)
    (h : ∀ a oa, (a, oa) ∈ n2 → (a == sysModules) = false → IntD w oa c → Q (.ref a) { s with toks := s.toks + 1 })
    (hsub : subscripted slice false (.ref d) (.str (wS i) tk) = operate [.ref d, .str (wS i) tk] (getItem (.ref d) (.str (wS i) tk)) := by with_unfolding_all rfl) (hg : ∀ r, letTemporaryGo value (.ref d) r = pure () := by intro _; with_unfolding_all rfl) :
    wpAny (model PySem.Challenge.rw_qc0004_01.row.prog w) A (subscriptTail value slice (.ref d) (.str (wS i) tk)) Q E s := by
  obtain ⟨kvs, hd, ha⟩ := T
  obtain ⟨a, oa, h1, h2, h3, h4⟩ := ent_some ha hi (fun p hp => smallT.key hs hp) hl
  exact kda_item (knd := PySem.strKind _ w) N hp hd (strKind_is _ _ _ _) h1 (h a oa h2 h3 h4) hsub hg
theorem tabd_set {Q : Unit → Shared → Prop} {n2 : List (Addr × Obj)} {c : List (Int × Int)} {a : Addr} {oa : Obj} (F : Fr h₀ L s.heap m) (N : News h₀ L s.heap news) (U : UpdF d o news g) (T : TabD w n2 o t) (hs : smallT t = true) (hi : i < 5) (hm : (a, oa) ∈ n2) (lo : (a == sysModules) = false) (hd : IntD w oa c)
    (h : ∀ h' o', Fr h₀ L h' m → News h₀ L h' (g o') → TabD w n2 o' (putT t i c) → Q () { s with heap := h', toks := s.toks + 1 }) :
    wpAny (model PySem.Challenge.rw_qc0004_01.row.prog w) A (setItem (.ref d) (.str (wS i) tk) (.ref a)) Q E s := by
  obtain ⟨kvs, hdd, ha⟩ := T
  refine kda_set (knd := PySem.strKind _ w) F N U hdd (strKind_is _ _ _ _) ?_ fun h' o' F' N' hd' => h h' o' F' N' ⟨_, hd', ent_put ha hi (fun p hp => smallT.key hs hp) hm lo hd⟩
  rw [ha.length, sizeLine_eq]
  have := smallT.len hs
  omega
theorem tabd_len {Q : Value → Shared → Prop} {n2 : List (Addr × Obj)} (N : News h₀ L s.heap news) (hp : (d, o) ∈ news) (lo : (d == sysModules) = false) (T : TabD w n2 o t) (hs : smallT t = true) (h : ∀ u k, Q (.int (t.length : Nat) u) { s with toks := k }) :
    wpAny (model PySem.Challenge.rw_qc0004_01.row.prog w) A (call (.builtin "len") [.ref d]) Q E s := by
  obtain ⟨kvs, hdd, ha⟩ := T
  refine kda_len (knd := PySem.strKind _ w) N hp hdd lo ?_ ?_
  · rw [ha.length]; have := smallT.len hs; omega
  · rw [ha.length]; exact h _ _
end

section
variable {prog : Program} {w : World} {A : Around} {E : Value → Shared → Prop} {s : Shared} {env : Env} {m : Str → Option Value}
theorem Keeps.toks {s : Shared} {tk : Nat} : Keeps s { s with toks := tk } := ⟨s.heap, tk, rfl, fun _ _ e => e⟩
theorem el_name {x : Str} {p : Pos} {v : Int} {t : Tok} {Q : Value → Shared → Prop} (hk : env.scope.kind = .function) (hx : env.kindOf x = some .local) (hn : s.heap.Ns env.locals m) (hv : m x = some (.int v t)) (hd : (x == ("__debug__" : Str)) = false := by decide) (h : Q (.int v t) s) :
    wpAny (model prog w) A (eval (.Name x p) env) Q E s := wpAny_Name (wpAny_loadName_local hk hx hn hv h) hd
theorem el_self {x : Str} {p : Pos} {v : Int} {t : Tok} (hk : env.scope.kind = .function) (hx : env.kindOf x = some .local) (hn : s.heap.Ns env.locals m) (hv : m x = some (.int v t)) (hd : (x == ("__debug__" : Str)) = false := by decide) :
    wpAny (model prog w) A (eval (.Name x p) env) (fun y s₃ => (∃ t, y = .int v t) ∧ Keeps s s₃) E s := wpAny_Name (wpAny_loadName_local hk hx hn hv ⟨⟨_, rfl⟩, _, _, rfl, fun _ _ e => e⟩) hd
theorem el_neg {x : Str} {p q : Pos} {v : Int} {t : Tok} (hk : env.scope.kind = .function) (hx : env.kindOf x = some .local) (hn : s.heap.Ns env.locals m) (hv : m x = some (.int v t)) (hd : (x == ("__debug__" : Str)) = false := by decide) :
    wpAny (model prog w) A (eval (.UnaryOp .USub (.Name x p) q) env) (fun y s₃ => (∃ t, y = .int (-v) t) ∧ Keeps s s₃) E s :=
  wpAny_UnaryOp (wpAny_Name (wpAny_loadName_local hk hx hn hv (PySem.P.neg_int ⟨⟨_, rfl⟩, _, _, rfl, fun _ _ e => e⟩)) hd)
theorem el_addN {x : Str} {p q r : Pos} {n : Int} {kk : Nat} {v : Int} {t : Tok} (hk : env.scope.kind = .function) (hx : env.kindOf x = some .local) (hn : s.heap.Ns env.locals m) (hv : m x = some (.int v t)) (hd : (x == ("__debug__" : Str)) = false := by decide) :
    wpAny (model prog w) A (eval (.BinOp (.Name x p) .Add (.Constant (.int n) kk r) q) env) (fun y s₃ => (∃ t, y = .int (v + n) t) ∧ Keeps s s₃) E s :=
  wpAny_BinOp (wpAny_Name (wpAny_loadName_local hk hx hn hv (wpAny_Constant_int (PySem.P.add_int ⟨⟨_, rfl⟩, _, _, rfl, fun _ _ e => e⟩))) hd)
theorem el_subN {x : Str} {p q r : Pos} {n : Int} {kk : Nat} {v : Int} {t : Tok} (hk : env.scope.kind = .function) (hx : env.kindOf x = some .local) (hn : s.heap.Ns env.locals m) (hv : m x = some (.int v t)) (hd : (x == ("__debug__" : Str)) = false := by decide) :
    wpAny (model prog w) A (eval (.BinOp (.Name x p) .Sub (.Constant (.int n) kk r) q) env) (fun y s₃ => (∃ t, y = .int (v - n) t) ∧ Keeps s s₃) E s :=
  wpAny_BinOp (wpAny_Name (wpAny_loadName_local hk hx hn hv (wpAny_Constant_int (PySem.P.sub_int ⟨⟨_, rfl⟩, _, _, rfl, fun _ _ e => e⟩))) hd)
theorem el_addC {x y : Str} {p q r : Pos} {n : Int} {c : Addr} {u : Tok} {v : Int} {t : Tok} (hk : env.scope.kind = .function) (hx : env.kindOf x = some .local) (hn : s.heap.Ns env.locals m) (hv : m x = some (.int v t)) (hy : env.kindOf y = some .cell) (hc : env.cells.lookup y = some c) (hcv : s.heap.IsCell c (some (.int n u))) (hd : (x == ("__debug__" : Str)) = false := by decide) (hd2 : (y == ("__debug__" : Str)) = false := by decide) :
    wpAny (model prog w) A (eval (.BinOp (.Name x p) .Add (.Name y r) q) env) (fun y s₃ => (∃ t, y = .int (v + n) t) ∧ Keeps s s₃) E s :=
  wpAny_BinOp (wpAny_Name (wpAny_loadName_local hk hx hn hv (wpAny_Name (wpAny_loadName_cell hk hy hc hcv (PySem.P.add_int ⟨⟨_, rfl⟩, _, _, rfl, fun _ _ e => e⟩)) hd2)) hd)
theorem el_subC {x y : Str} {p q r : Pos} {n : Int} {c : Addr} {u : Tok} {v : Int} {t : Tok} (hk : env.scope.kind = .function) (hx : env.kindOf x = some .local) (hn : s.heap.Ns env.locals m) (hv : m x = some (.int v t)) (hy : env.kindOf y = some .cell) (hc : env.cells.lookup y = some c) (hcv : s.heap.IsCell c (some (.int n u))) (hd : (x == ("__debug__" : Str)) = false := by decide) (hd2 : (y == ("__debug__" : Str)) = false := by decide) :
    wpAny (model prog w) A (eval (.BinOp (.Name x p) .Sub (.Name y r) q) env) (fun y s₃ => (∃ t, y = .int (v - n) t) ∧ Keeps s s₃) E s :=
  wpAny_BinOp (wpAny_Name (wpAny_loadName_local hk hx hn hv (wpAny_Name (wpAny_loadName_cell hk hy hc hcv (PySem.P.sub_int ⟨⟨_, rfl⟩, _, _, rfl, fun _ _ e => e⟩)) hd2)) hd)
end
end Mine
end
section
open PySem PySem.W PyProof.Rows PySem.Calls PySem.Spec PyProof.V
set_option maxRecDepth 100000
set_option maxHeartbeats 4000000
namespace Mine
local macro_rules | `(tactic| walk_at $s:str) => `(tactic| k_extra $s)
local macro_rules | `(tactic| k_mem) => `(tactic| assumption)
local macro_rules | `(tactic| k_room) => `(tactic| ktr_room)
local macro_rules | `(tactic| k_all) => `(tactic| first | assumption | (intro p9 hp9; have h9 := NB.at (by assumption) hp9; (refine neN ?_); (try dsimp only); omega))
theorem lexer_spec {w : World} {loose : List Str} {mean : ExcName → Option Value} {mg mb : Str → Option Value}
  (dp un : Nat) (gd : Option (List Code)) (cn : Str) (cs : Scope) (a : Addr) (ccd : Value) (cl : List (Str × Addr)) (outer : List Env) (A₀ : Around) (base h₀ : Heap) (L : Addr) (m : Str → Option Value) (news : List (Addr × Obj)) (s : Shared) (Q E : Value → Shared → Prop)
  (B : Below A₀ base outer h₀) (F : Fr h₀ L s.heap m) (X : (frag.heap_1 w.params).In h₀) (N : News h₀ L s.heap ((79, tabObj #[]) :: news)) (h79 : ∀ p ∈ news, p.1 ≠ 79) (hC : CodeHd h₀ 83 79) (T : Top topProg loose mean mg mb h₀) (hk : cs.kind = .function)
  (hd : dp + 8 < recursionLimit) (hun : un + 64 < cLine) (t0 t1 t2 : Tok) (x : Str) (hx : x.length ≤ 64)
  (hret : ∀ (pb lx dd dx rf cc st c1 D cell : Nat) (fdr fds : FuncData) (oc oc1 ocell : Obj) (tps : Array Value) (ys : List Value) (c : Nat) (u t1 t2 t3 t4 t5 t6 : Tok) (h' : Heap) (tk' : Nat), Fr h₀ L h' m →
    News h₀ L h' ((pb, listOf #[] 0) :: (lx, instObj 66 dd) :: (dd, lexDict w 1 st pb t1 t2 t3 t4 t5 t6) :: (dx, dictOf [⟨PyData.keyHash w.params (Str.ofString "read"), .str (Str.ofString "read") u, .ref rf⟩] 1) :: (rf, fnObj fdr) :: (cc, oc) :: (st, { cls := .type "function", dict := some dx, data := .func fds }) :: (c1, oc1) :: (D, listOf ys.toArray c) :: (cell, ocell) :: (79, tabObj tps) :: news) →
    (79 < cell ∧ cell < D ∧ D < c1 ∧ c1 < st ∧ st < cc ∧ cc < rf ∧ rf < dx ∧ dx < dd ∧ dd < lx ∧ lx < pb) → NB news cell → StrsAre ys (signs x) → RdSpec w rf cell D cc fdr ocell oc → Q (.ref lx) { s with heap := h', toks := tk' }) :
  wpAny (model PySem.Challenge.rw_qc0004_01.row.prog w) (ktrTop dp un gd cn cs L a ccd cl outer) (call (.ref 84) [.str x t0]) Q E s := by
  w_strict (
    w_top off
    k_with_none
    k_with "execs cons" => (k_here; (rename Fr _ _ _ _ => lF'); (fail_if_success (with_reducible have h9 : Fr _ _ _ m9 := lF')); k_dflt (refine (let m9 : Str → Option Value := _; have F9 : Fr _ _ _ m9 := lF'; ?_)); clear lF')
    k_with "execs cons" => (k_here; (fail_if_success (with_reducible show wpAny _ _ _ Q9 _ _)); k_dflt (refine (let Q9 : Flow → Shared → Prop := _; let E9 : Value → Shared → Prop := _; (show wpAny _ _ (execs _ _) Q9 E9 _ from ?_))))
    k_with "call type:list" => ((k_here; (with_reducible show wpAny _ _ (call (Value.type "list") [Value.str _ _]) _ _ _); k_dflt (refine list_str_K (by rfl) (by k_asm) (by k_asm) ?_ (by (rw [sizeLine_eq]; omega)); k_whole); intro D' h' tk' ys' c' F' N' l1 hs'; (try k_lt l1)))
    k_with "setAttr ref" => ((k_here; (rename Fr _ _ _ _ => lF'); (rename News _ _ _ _ => lN'); k_dflt (refine setAttr_fn fn_none lF' lN' (by k_updF) ?_; k_whole); intro dx' t' h' tk' F' N' l1; (try dsimp only at N'); (try k_lt l1); (try k_sweep)))
    k_with "truthy ref" => ((k_here; (with_reducible show wpAny _ _ (truthy (Value.ref _)) _ _ _); k_dflt (first | (refine truthy_cons (by k_asm) (by k_mem) (by assumption) ?_) | (refine truthy_nil (by k_asm) (by k_mem) ?_)); intro tk9))
    k_with "call builtin:list.pop" => ((k_here; (with_reducible show wpAny _ _ (call (Value.builtin "list.pop") [Value.ref _, Value.int _ _]) _ _ _); k_dflt (refine pop0 (by k_asm) (by k_asm) (by k_upd) (by assumption) ?_; k_whole); intro h' F' N'; (try k_sweep)))
    k_with "my.lam" => (k_dflt (refine kla_code (by k_asm) (by k_asm) (by k_asm) (by k_asm) (by k_asm) (by exact rfl) (by exact rfl) (by assumption) (by k_mem) (by exact codeRec_news (by k_asm) (by k_mem) (by assumption) (by assumption)) (by ktr_room) (by exact rfl) (by exact locs rfl) ?_ (by exact rfl) (by exact rfl) (by exact rfl) (by decide); k_whole; intro g' L' h' FG' F' N' B' X' T'; (try dsimp only); (try k_fold)))
    revert X; k_fill; intro X
    refine wpAny_call ?_
    k_dflt (refine' code_defC ?k1 ?k2 ?k3 ?k4 ?k5 ?kA ?kF ?kK ?k6 ?k7 ?k8 ?k9 ?kB ?kD ?_ ?c2 ?c3 ?c4; (case kA => exact rfl); (case kF => exact rfl); (case kK => assumption); (case k1 => k_asm); (case k2 => k_asm); (case k3 => k_asm); (case k4 => k_asm); (case k5 => k_asm); (case k6 => k_is); (case k7 => k_is); (case k8 => ktr_room); (case k9 => exact BindsTo.of_eq rfl); (case kB => exact rfl); (case kD => decide +kernel); (case c2 => exact rfl); (case c3 => exact rfl); (case c4 => exact rfl); k_whole; intro g' L' h' tk' cells' FG' F' N' Y' B' X' T' l1; (have hNB : NB news L' := fun p hp => l1 p (.tail _ hp)); (have hL79 := ltN (a := 79) (b := L') (l1 (79, _) (.head _))); (have hC' : CodeHd g' 83 79 := hC.keeps FG'.keep); clear l1; k_cells Y'; (try simp only [List.cons_append, List.nil_append] at N'); (try dsimp only); (try k_fold))
    k_steps
    rename_i kF kN _ _
    refine hret _ _ _ _ _ _ _ _ _ _ _ _ _ _ _ _ _ _ _ _ _ _ _ _ _ _ _ kF kN ?_ ?_ (by assumption) ?_
    · refine ⟨?_, ?_, ?_, ?_, ?_, ?_, ?_, ?_, ?_, ?_⟩ <;> (refine ltN ?_; omega)
    · intro p hp
      have := hNB.at hp
      exact Nat.lt_succ_of_lt this
    · intro loose' mean' mg' mb' dp' un' gd' cn' cs' a' ccd' cl' outer' A₀' base' h₀' L₂ m' news' s' Q' E' t' ys c B₂ F₂ X₂ N₂ T₂ C₂ hk' hd' hun' hoff hrf hcell hcc hlen hnil hcons
      clear hret
      clear kF kN
      cases ys with
      | nil =>
        refine wpAny_call ?_
        walk_at "my.lam"
        k_steps
        exact hnil rfl _ _ _ (by k_asm) (by k_asm)
      | cons v r =>
        have hlen' : r.length ≤ 100000 := by simp at hlen; omega
        refine wpAny_call ?_
        walk_at "my.lam"
        k_steps
        exact hcons v r rfl _ _ _ (by k_asm) (by k_asm))
end Mine
end
section
open PySem PySem.W PyProof.Rows PySem.Calls PySem.Spec PyProof.V
set_option maxRecDepth 100000
namespace Mine
theorem wS_0 : wS 0 = Str.ofString "" := by unfold wS; rfl
def inB (S : Str) (k : Nat) : Bool := !(Builtin.Str.occurrences S ⟨#[k]⟩ 0 S.length 1).isEmpty
theorem inB_hook {k : Nat} (h : k ∈ [34, 92, 32, 10]) : inB (Str.ofString "\"\\") k = bOf k := by revert k; decide +kernel
theorem inB_step {k : Nat} (h : k ∈ [34, 92, 32, 10]) : inB (Str.ofString "\" ") k = (k == 34 || k == 32) := by revert k; decide +kernel
section
variable {prog : Program} {w : World} {A : Around} {E : Value → Shared → Prop} {s : Shared} {h₀ : Heap} {L a : Addr} {m : Str → Option Value} {cn : Str} {cs : Scope} {ccd : Value} {cl : List (Str × Addr)} {Q : Value → Shared → Prop}
theorem if_in {x S : Str} {k : Nat} {t : Tok} {bd oe : PySem.Expr} {p1 p2 p3 p6 : Pos} {k1 : Nat} (F : Fr h₀ L s.heap m) (hv : m x = some (.str ⟨#[k]⟩ t))
    (h : ∀ tk, if inB S k = true then wpAny (model prog w) A (eval bd (envX cn cs L a ccd cl)) Q E { s with toks := tk } else wpAny (model prog w) A (eval oe (envX cn cs L a ccd cl)) Q E { s with toks := tk })
    (hk : cs.kind = .function := by rfl) (hx : (envX cn cs L a ccd cl).kindOf x = some .local := by rfl) (hd : (x == ("__debug__" : Str)) = false := by decide) :
    wpAny (model prog w) A (eval (.IfExp (.Compare (.Name x p1) [.In] [.Constant (.str S) k1 p2] p3) bd oe p6) (envX cn cs L a ccd cl)) Q E s := by
  refine wpAny_IfExp (wpAny_isTrue_Compare1 (nameX_L F hv (wpAny_Constant_str (in_str (wpAny_truthy_bool ?_))) hk hx hd))
  have := h (s.toks + 1)
  unfold inB at this
  split at this
  · next e => rw [if_pos e]; exact this
  · next e => rw [if_neg e]; exact this
theorem hook_eval {x : Str} {k : Nat} {t : Tok} {p1 p2 p3 p4 p5 p6 : Pos} {k1 k2 k3 : Nat} (F : Fr h₀ L s.heap m) (hv : m x = some (.str ⟨#[k]⟩ t)) (hk4 : k ∈ [34, 92, 32, 10])
    (h : ∀ t tk, Q (.str (hS (bOf k)) t) { s with toks := tk }) (hk : cs.kind = .function := by rfl) (hx : (envX cn cs L a ccd cl).kindOf x = some .local := by rfl) (hd : (x == ("__debug__" : Str)) = false := by decide) :
    wpAny (model prog w) A (eval (.IfExp (.Compare (.Name x p1) [.In] [.Constant (.str (Str.ofString "\"\\")) k1 p2] p3) (.Constant (.str (Str.ofString "e")) k2 p4) (.Constant (.str (Str.ofString "f")) k3 p5) p6) (envX cn cs L a ccd cl)) Q E s := by
  refine if_in F hv (fun tk => ?_) hk hx hd
  rw [inB_hook hk4]
  have h1 := h tk (tk + 1)
  cases hb : bOf k with
  | true => rw [hb] at h1; unfold hS at h1; rw [if_pos rfl]; exact wpAny_Constant_str h1
  | false => rw [hb] at h1; unfold hS at h1; rw [if_neg (by decide)]; exact wpAny_Constant_str h1
theorem step_eval {x : Str} {k : Nat} {t : Tok} {p1 p2 p3 p4 p5 p6 p7 : Pos} {k1 k2 k3 : Nat} (F : Fr h₀ L s.heap m) (hv : m x = some (.str ⟨#[k]⟩ t)) (hk4 : k ∈ [34, 92, 32, 10])
    (h : ∀ t tk, Q (.int (stOf k) t) { s with toks := tk }) (hk : cs.kind = .function := by rfl) (hx : (envX cn cs L a ccd cl).kindOf x = some .local := by rfl) (hd : (x == ("__debug__" : Str)) = false := by decide) :
    wpAny (model prog w) A (eval (.IfExp (.Compare (.Name x p1) [.In] [.Constant (.str (Str.ofString "\" ")) k1 p2] p3) (.Constant (.int 1) k2 p4) (.UnaryOp .USub (.Constant (.int 1) k3 p5) p7) p6) (envX cn cs L a ccd cl)) Q E s := by
  refine if_in F hv (fun tk => ?_) hk hx hd
  rw [inB_step hk4]
  unfold stOf at h
  split
  · next e => simp only [e, if_true] at h; exact wpAny_Constant_int (h _ _)
  · next e => simp only [e, Bool.false_eq_true, if_false] at h; exact wpAny_UnaryOp (wpAny_Constant_int (PySem.P.neg_int (h _ _)))
end
end Mine
end
section
open PySem PySem.W PyProof.Rows PySem.Calls PySem.Spec PyProof.V
set_option maxRecDepth 100000
namespace Mine
abbrev pr : Program := PySem.Challenge.rw_qc0004_01.row.prog
theorem intTab_of {w : World} {h₀ h : Heap} {L : Addr} {news : List (Addr × Obj)} {d : Addr} {od : Obj} {c : List (Int × Int)} (N : News h₀ L h news) (hm : (d, od) ∈ news) (lo : (d == sysModules) = false) (hd : IntD w od c) : IntTab pr w h d (kdfD c) := by
  obtain ⟨kvs, h1, h2⟩ := hd
  exact ⟨lo, kvs, Heap.dictOf_iff.mpr ⟨od, (N _ hm).1, h1⟩, h2⟩
section
variable {w : World} {A : Around} {E : Value → Shared → Prop} {s : Shared} {h₀ : Heap} {L a : Addr} {m : Str → Option Value} {cn : Str} {cs : Scope} {ccd : Value} {cl : List (Str × Addr)} {news : List (Addr × Obj)}

/-- what an element of a dict comprehension gives -/
def ElOk (w : World) (A : Around) (env : Env) (h₀ : Heap) (L : Addr) (news : List (Addr × Obj)) (scope : Scope) (cc : List (Str × Addr)) (xk xv : Str) (c : List (Int × Int)) (x : PySem.Expr) (f : Int × Int → Int) : Prop :=
  ∀ (h₁ : Heap) C k v tk tv s₂ m₂ E', News h₀ L h₁ news → (k, v) ∈ c → s₂.heap.Ns C m₂ → m₂ xk = some (.int k tk) → m₂ xv = some (.int v tv) → (∀ b o, h₁.get? b = some o → s₂.heap.get? b = some o) →
      wpAny (model pr w) A (eval x (compEnvC scope cc C env)) (fun key s₃ => (∃ t, key = .int (f (k, v)) t) ∧ Keeps s₂ s₃) E' s₂

theorem items_end {env : Env} {pl : Sem Bool} {pos : Pos} {kx vx : PySem.Expr} {scope : Scope} {cc : List (Str × Addr)} {xk xv : Str} {d : Addr} {od : Obj} {c : List (Int × Int)} (g : Int × Int → Int × Int) {Qf : Addr → Obj → Heap → Nat → Shared → Prop} {mf : (Str → Option Value) → Addr → Str → Option Value}
    (big : h₀.NoLimit) (F : Fr h₀ L s.heap m) (N : News h₀ L s.heap news) (hm : (d, od) ∈ news) (lo : (d == sysModules) = false) (hd : IntD w od c) (hl : c.length ≤ 1000000)
    (key : ElOk w A env h₀ L news scope cc xk xv c kx fun p => (g p).1) (val : ElOk w A env h₀ L news scope cc xk xv c vx fun p => (g p).2)
    (hQ : ∀ h₁ D o h' tk, Fr h₀ L h' (mf m D) → News h₀ L h' ((D, o) :: news) → (∀ p ∈ news, p.1 < D) → (D == sysModules) = false → IntD w o (putAll [] (c.map g)) → Qf D o h' tk { s with heap := h₁ }) :
    wpAny (model pr w) A (getMethod (.ref d) (Str.ofString "items") pl) (fun fx s₂ => wpAny (model pr w) A (callWith pos fx.1 fx.2 (backTo pos (starEach [] env)) [])
      (fun v s₁ => ∃ m news c, ItemsSrc pr w A env scope cc xk xv kx vx h₀ L m news g c v s₁ ∧
        ∀ D o h' tk, Fr h₀ L h' (mf m D) → News h₀ L h' ((D, o) :: news) → (∀ p ∈ news, p.1 < D) → (D == sysModules) = false → (∃ kvs, o.IsDictOf (PySem.intKind pr w) kvs ∧ FlatPairs PyData.int kvs (kdfD (putAll [] (c.map g)))) → Qf D o h' tk s₁) E s₂) E s := by
  have T := intTab_of N hm lo hd
  refine getMethod_tab (knd := PySem.intKind pr w) (enc := PyData.int) PySem.F.slot_dict_items PySem.F.type_dict_items T ?_
  refine callWith_method0 ?_
  refine call_items_tab (knd := PySem.intKind pr w) (enc := PyData.int) T F N fun h' o hv F' N' => ?_
  exact ⟨m, news, c, ⟨big, F', kti_tail N', hl, ⟨_, d, rfl, hv, intTab_of (kti_tail N') hm lo hd⟩, fun C k v tk tv s₂ m₂ E' h1 h2 h3 h4 h5 => key h' C k v tk tv s₂ m₂ E' (kti_tail N') h1 h2 h3 h4 h5, fun C k v tk tv s₂ m₂ E' h1 h2 h3 h4 h5 => val h' C k v tk tv s₂ m₂ E' (kti_tail N') h1 h2 h3 h4 h5⟩,
    fun D o h' tk F1 N1 l1 lo1 hd1 => hQ _ D o h' tk F1 N1 l1 lo1 hd1⟩

variable {env : Env} {scope : Scope} {cc : List (Str × Addr)} {xk xv : Str} {c : List (Int × Int)} {p q r : Pos}
theorem ok_val (hk : scope.kind = .function) (hv : scope.names.lookup xv = some .local) (hd : (xv == ("__debug__" : Str)) = false) : ElOk w A env h₀ L news scope cc xk xv c (.Name xv p) fun p => p.2 :=
  fun _ _ _ _ _ _ _ _ _ _ _ hn _ h2 _ => el_self (env := compEnvC scope cc _ env) hk (lookup_relabel_local hv) hn h2 hd
theorem ok_neg (hk : scope.kind = .function) (hv : scope.names.lookup xv = some .local) (hd : (xv == ("__debug__" : Str)) = false) : ElOk w A env h₀ L news scope cc xk xv c (.UnaryOp .USub (.Name xv p) q) fun p => -p.2 :=
  fun _ _ _ _ _ _ _ _ _ _ _ hn _ h2 _ => el_neg (env := compEnvC scope cc _ env) hk (lookup_relabel_local hv) hn h2 hd
theorem ok_addN {n : Int} {kk : Nat} (hk : scope.kind = .function) (hv : scope.names.lookup xk = some .local) (hd : (xk == ("__debug__" : Str)) = false) : ElOk w A env h₀ L news scope cc xk xv c (.BinOp (.Name xk p) .Add (.Constant (.int n) kk r) q) fun p => p.1 + n :=
  fun _ _ _ _ _ _ _ _ _ _ _ hn h1 _ _ => el_addN (env := compEnvC scope cc _ env) hk (lookup_relabel_local hv) hn h1 hd
theorem ok_subN {n : Int} {kk : Nat} (hk : scope.kind = .function) (hv : scope.names.lookup xk = some .local) (hd : (xk == ("__debug__" : Str)) = false) : ElOk w A env h₀ L news scope cc xk xv c (.BinOp (.Name xk p) .Sub (.Constant (.int n) kk r) q) fun p => p.1 - n :=
  fun _ _ _ _ _ _ _ _ _ _ _ hn h1 _ _ => el_subN (env := compEnvC scope cc _ env) hk (lookup_relabel_local hv) hn h1 hd
theorem ok_addC {y : Str} {n : Int} {ca : Addr} {oc : Obj} {u : Tok} (hk : scope.kind = .function) (hv : scope.names.lookup xk = some .local) (hd : (xk == ("__debug__" : Str)) = false) (hy : (relabel scope env).names.lookup y = some .cell) (hc : cc.lookup y = some ca) (hm : (ca, oc) ∈ news) (ho : oc.data = .cell (some (.int n u))) (hd2 : (y == ("__debug__" : Str)) = false) :
    ElOk w A env h₀ L news scope cc xk xv c (.BinOp (.Name xk p) .Add (.Name y r) q) fun p => p.1 + n :=
  fun _ _ _ _ _ _ _ _ _ N _ hn h1 _ hkeep => el_addC (env := compEnvC scope cc _ env) hk (lookup_relabel_local hv) hn h1 hy hc ⟨oc, hkeep _ _ (N _ hm).1, ho⟩ hd hd2
theorem ok_subC {y : Str} {n : Int} {ca : Addr} {oc : Obj} {u : Tok} (hk : scope.kind = .function) (hv : scope.names.lookup xk = some .local) (hd : (xk == ("__debug__" : Str)) = false) (hy : (relabel scope env).names.lookup y = some .cell) (hc : cc.lookup y = some ca) (hm : (ca, oc) ∈ news) (ho : oc.data = .cell (some (.int n u))) (hd2 : (y == ("__debug__" : Str)) = false) :
    ElOk w A env h₀ L news scope cc xk xv c (.BinOp (.Name xk p) .Sub (.Name y r) q) fun p => p.1 - n :=
  fun _ _ _ _ _ _ _ _ _ N _ hn h1 _ hkeep => el_subC (env := compEnvC scope cc _ env) hk (lookup_relabel_local hv) hn h1 hy hc ⟨oc, hkeep _ _ (N _ hm).1, ho⟩ hd hd2
end

section
variable {prog : Program} {w : World} {A : Around} {E : Value → Shared → Prop} {s : Shared}
theorem word_len {i : Nat} {b : Bool} (hi : i < 5) : (wS i).length + (hS b).length ≤ 16777216 := by have := wS_len hi; have := hS_len b; omega
theorem add_word {i : Nat} {b : Bool} {t u : Tok} {Q : Value → Shared → Prop} (hi : i < 5) (h : ∀ t' tk, Q (.str (wS i ++ hS b) t') { s with toks := tk }) : wpAny (model prog w) A (binaryOp .Add (.str (wS i) t) (.str (hS b) u)) Q E s :=
  PyProof.Rows.add_str h (by rw [sizeLine_eq]; exact word_len hi)
theorem ne_told {i : Nat} {b : Bool} {t u : Tok} {Q : Value → Shared → Prop} (hi : i < 5) (h : Q (.bool (rg i b)) s) : wpAny (model prog w) A (compareOp .NotEq (.str (wS (nx i b)) t) (.str (toldS i b) u)) Q E s := by
  refine PyProof.Rows.ne_str ?_
  have : (wS (nx i b) != toldS i b) = rg i b := by unfold bne; rw [told_eq hi]; simp
  rw [this]; exact h
end

theorem tabd_notin_f {w : World} {A : Around} {E : Value → Shared → Prop} {s : Shared} {h₀ : Heap} {L d : Addr} {news n2 : List (Addr × Obj)} {o : Obj} {t : Tab} {i : Nat} {tk : Tok} {Q : Value → Shared → Prop} (N : News h₀ L s.heap news) (hp : (d, o) ∈ news) (lo : (d == sysModules) = false) (T : TabD w n2 o t) (hs : smallT t = true) (hi : i < 5) (hb : (lk t i).isSome = true) (h : Q (.bool false) { s with toks := s.toks + 1 }) :
    wpAny (model pr w) A (compareOp .NotIn (.str (wS i) tk) (.ref d)) Q E s := tabd_notin N hp lo T hs hi true hb h
theorem tabd_notin_t {w : World} {A : Around} {E : Value → Shared → Prop} {s : Shared} {h₀ : Heap} {L d : Addr} {news n2 : List (Addr × Obj)} {o : Obj} {t : Tab} {i : Nat} {tk : Tok} {Q : Value → Shared → Prop} (N : News h₀ L s.heap news) (hp : (d, o) ∈ news) (lo : (d == sysModules) = false) (T : TabD w n2 o t) (hs : smallT t = true) (hi : i < 5) (hb : (lk t i).isSome = false) (h : Q (.bool true) { s with toks := s.toks + 1 }) :
    wpAny (model pr w) A (compareOp .NotIn (.str (wS i) tk) (.ref d)) Q E s := tabd_notin N hp lo T hs hi false hb h
theorem DictComp_itemsF {prog : Program} {w : World} {A : Around} {E : Value → Shared → Prop} {s : Shared} {kx vx iter : PySem.Expr} {xk xv : Str} {pk pv pt : Pos} {x1 : Nat} {scope : Scope} {pos : Pos} {env : Env} {cl : List (Str × Addr)} {h₀ : Heap} {L : Addr} {m₀ : Str → Option Value} {Q : Value → Shared → Prop} (g : Int × Int → Int × Int) (_F : Fr h₀ L s.heap m₀)
    (hh : A.handled = none) (hclos : closureFor scope env = pure cl) (hcell : ∀ y ∈ scope.names, y.2 ≠ .cell) (hkind : scope.kind = .function)
    (hnames : ∀ y ∈ scope.names, y.2 = .local → scope.names.lookup y.1 = some .local) (hxk : scope.names.lookup xk = some .local) (hxv : scope.names.lookup xv = some .local) (hne : xk ≠ xv)
    (h : wpAny (model prog w) A (eval iter env) (fun v s₁ => ∃ m news c, ItemsSrc prog w A env scope cl xk xv kx vx h₀ L m news g c v s₁ ∧
      ∀ D o h' tk, Fr h₀ L h' m → News h₀ L h' ((D, o) :: news) → (∀ p ∈ news, p.1 < D) → (D == sysModules) = false → (∃ kvs, o.IsDictOf (PySem.intKind prog w) kvs ∧ FlatPairs PyData.int kvs (kdfD (putAll [] (c.map g)))) → Q (.ref D) { s₁ with heap := h', toks := tk }) E s)
    (hs : ∀ x, foldedSetIterable iter env x = pure x := by intro _; rfl) :
    wpAny (model prog w) A (eval (.DictComp kx vx [⟨.Tuple [.Name xk pk, .Name xv pv] x1 pt, iter, [], 0⟩] scope pos) env) Q E s := DictComp_items g hh hclos hcell hkind hnames hxk hxv hne h hs
theorem DictComp_itemsK {prog : Program} {w : World} {A : Around} {E : Value → Shared → Prop} {s : Shared} {kx vx iter : PySem.Expr} {xk xv : Str} {pk pv pt : Pos} {x1 : Nat} {scope : Scope} {pos : Pos} {env : Env} {cl : List (Str × Addr)} {h₀ : Heap} {L : Addr} {m₀ : Str → Option Value} {Q : Value → Shared → Prop} {n : Int} {u : Tok} {oc : Obj} (_hC : oc.data = .cell (some (.int n u))) (_F : Fr h₀ L s.heap m₀)
    (hh : A.handled = none) (hclos : closureFor scope env = pure cl) (hcell : ∀ y ∈ scope.names, y.2 ≠ .cell) (hkind : scope.kind = .function)
    (hnames : ∀ y ∈ scope.names, y.2 = .local → scope.names.lookup y.1 = some .local) (hxk : scope.names.lookup xk = some .local) (hxv : scope.names.lookup xv = some .local) (hne : xk ≠ xv)
    (h : wpAny (model prog w) A (eval iter env) (fun v s₁ => ∃ m news c, ItemsSrc prog w A env scope cl xk xv kx vx h₀ L m news (shK n) c v s₁ ∧
      ∀ D o h' tk, Fr h₀ L h' m → News h₀ L h' ((D, o) :: news) → (∀ p ∈ news, p.1 < D) → (D == sysModules) = false → (∃ kvs, o.IsDictOf (PySem.intKind prog w) kvs ∧ FlatPairs PyData.int kvs (kdfD (putAll [] (c.map (shK n))))) → Q (.ref D) { s₁ with heap := h', toks := tk }) E s)
    (hs : ∀ x, foldedSetIterable iter env x = pure x := by intro _; rfl) :
    wpAny (model prog w) A (eval (.DictComp kx vx [⟨.Tuple [.Name xk pk, .Name xv pv] x1 pt, iter, [], 0⟩] scope pos) env) Q E s := DictComp_items (shK n) hh hclos hcell hkind hnames hxk hxv hne h hs
theorem pa_len {f : Int × Int → Int × Int} {c : List (Int × Int)} {n : Nat} (h : c.length ≤ n) : (putAll [] (c.map f)).length ≤ n := by
  have := putAll_len [] (c.map f)
  simp only [List.length_nil, List.length_map] at this
  omega
theorem ring_len {f g : Int × Int → Int × Int} {c : List (Int × Int)} (h : c.length ≤ 1000000) : (putAll [] (c.map f)).length + (putAll [] (c.map g)).length ≤ 8000000 := by
  have := pa_len (f := f) h
  have := pa_len (f := g) h
  omega
theorem lk_snoc {t : Tab} {i : Nat} {x : List (Int × Int)} (h : lk t i = none) : lk (t ++ [(i, x)]) i = some x := by
  induction t with
  | nil => simp [lk]
  | cons p r ih =>
    unfold lk at h
    split at h
    · exact nomatch h
    · next ne => show lk (p :: (r ++ [(i, x)])) i = some x; unfold lk; rw [if_neg ne]; exact ih h
theorem upd_snoc {t : Tab} {i : Nat} {x y : List (Int × Int)} (h : lk t i = none) : upd i y (t ++ [(i, x)]) = t ++ [(i, y)] := by
  induction t with
  | nil => simp [upd]
  | cons p r ih =>
    unfold lk at h
    split at h
    · exact nomatch h
    · next ne => show upd i y (p :: (r ++ [(i, x)])) = p :: (r ++ [(i, y)]); unfold upd; rw [if_neg ne, ih h]
theorem put_new {t : Tab} {i : Nat} {x : List (Int × Int)} (h : lk t i = none) : putT t i x = t ++ [(i, x)] := by unfold putT; rw [h]; rfl
theorem lk_put {t : Tab} {i : Nat} {x : List (Int × Int)} (h : lk t i = none) : lk (putT t i x) i = some x := by rw [put_new h]; exact lk_snoc h
theorem put_put {t : Tab} {i : Nat} {x y : List (Int × Int)} (h : lk t i = none) : putT (putT t i x) i y = putT t i y := by
  rw [put_new h, put_new h]
  unfold putT
  rw [lk_snoc h]
  exact upd_snoc h
theorem grow_new {G : Tab} {i : Nat} {c : List (Int × Int)} (h : lk G i = none) : putT (putT G i []) i (addC [] c) = grow G i c := by rw [put_put h]; unfold grow; rw [h]; rfl
theorem grow_old {G : Tab} {i : Nat} {c d : List (Int × Int)} (h : lk G i = some d) : putT G i (addC d c) = grow G i c := by unfold grow; rw [h]; rfl
theorem small_new {G : Tab} {i : Nat} {c : List (Int × Int)} (h : lk G i = none) (hs : smallT (grow G i c) = true) : smallT (putT G i []) = true := by
  unfold grow at hs
  rw [put_new h] at hs ⊢
  unfold smallT at hs ⊢
  simp only [List.length_append, List.length_singleton, List.all_append, List.all_cons, List.all_nil, Bool.and_true, Bool.and_eq_true, decide_eq_true_eq] at hs ⊢
  exact ⟨hs.1, hs.2.1, hs.2.2.1, Nat.zero_le _⟩
theorem lk_len {t : Tab} {i : Nat} {c : List (Int × Int)} (hs : smallT t = true) (h : lk t i = some c) : c.length ≤ 1000 := smallT.row hs (lk_mem h)
theorem ks_grow_new {G : Tab} {i : Nat} {c : List (Int × Int)} (h : lk G i = none) : ks (grow G i c) = ks G ++ [i] := by unfold grow; rw [putT_ks, h]; rfl
theorem ks_grow_old {G : Tab} {i : Nat} {c d : List (Int × Int)} (h : lk G i = some d) : ks (grow G i c) = ks G := by unfold grow; rw [putT_ks, h]; rfl
theorem News.rotF1 {h₀ h : Heap} {L : Addr} {x0 x1 x2 x3 x4 x5 x6 : Addr × Obj} {n : List (Addr × Obj)} (N : News h₀ L h (x0 :: x1 :: x2 :: x3 :: x4 :: x5 :: x6 :: n)) : News h₀ L h (x1 :: x2 :: x3 :: x4 :: x5 :: x6 :: x0 :: n) := N.perm fun p hp => by
  simp only [List.mem_cons] at hp ⊢
  rcases hp with h | h | h | h | h | h | h | h <;> simp [h]

theorem News.rotF2 {h₀ h : Heap} {L : Addr} {x0 x1 x2 x3 x4 x5 x6 x7 : Addr × Obj} {n : List (Addr × Obj)} (N : News h₀ L h (x0 :: x1 :: x2 :: x3 :: x4 :: x5 :: x6 :: x7 :: n)) : News h₀ L h (x2 :: x3 :: x4 :: x5 :: x6 :: x7 :: x0 :: x1 :: n) := N.perm fun p hp => by
  simp only [List.mem_cons] at hp ⊢
  rcases hp with h | h | h | h | h | h | h | h | h <;> simp [h]

theorem News.rot5 {h₀ h : Heap} {L : Addr} {x0 x1 x2 x3 x4 x5 x6 x7 x8 x9 : Addr × Obj} {n : List (Addr × Obj)} (N : News h₀ L h (x0 :: x1 :: x2 :: x3 :: x4 :: x5 :: x6 :: x7 :: x8 :: x9 :: n)) : News h₀ L h (x5 :: x6 :: x7 :: x8 :: x9 :: x0 :: x1 :: x2 :: x3 :: x4 :: n) := N.perm fun p hp => by
  simp only [List.mem_cons] at hp ⊢
  rcases hp with h | h | h | h | h | h | h | h | h | h | h <;> simp [h]

theorem News.rot8 {h₀ h : Heap} {L : Addr} {x0 x1 x2 x3 x4 x5 x6 x7 x8 x9 x10 x11 x12 : Addr × Obj} {n : List (Addr × Obj)} (N : News h₀ L h (x0 :: x1 :: x2 :: x3 :: x4 :: x5 :: x6 :: x7 :: x8 :: x9 :: x10 :: x11 :: x12 :: n)) : News h₀ L h (x8 :: x9 :: x10 :: x11 :: x12 :: x0 :: x1 :: x2 :: x3 :: x4 :: x5 :: x6 :: x7 :: n) := N.perm fun p hp => by
  simp only [List.mem_cons] at hp ⊢
  rcases hp with h | h | h | h | h | h | h | h | h | h | h | h | h | h <;> simp [h]


theorem okR_small {tb : Tab} {b : Bool} {st : Int} {r : List Nat} {G : Tab} (h : okR tb b st r G = true) : smallT G = true := by
  cases r with
  | nil => exact h
  | cons i r => unfold okR at h; simp only [Bool.and_eq_true] at h; exact h.1.1.1
theorem okR_cons {tb : Tab} {b : Bool} {st : Int} {i : Nat} {r : List Nat} {G : Tab} (h : okR tb b st (i :: r) G = true) : ∃ c, lk tb i = some c ∧ i < 5 ∧ smallT (grow G i (gain1 st c)) = true ∧ okR tb b st r (oneW tb b st G i) = true ∧ oneW tb b st G i = grow (grow G i (gain1 st c)) (nx i b) (gain2 i b st c) := by
  unfold okR at h
  simp only [Bool.and_eq_true, decide_eq_true_eq] at h
  obtain ⟨⟨⟨_, h2⟩, h3⟩, h4⟩ := h
  cases hc : lk tb i with
  | none => rw [hc] at h2; exact nomatch h2
  | some c => rw [hc] at h2; exact ⟨c, rfl, h3, h2, h4, by unfold oneW; rw [hc]⟩
theorem gain2_t {i : Nat} {b : Bool} {st : Int} {c : List (Int × Int)} (h : rg i b = true) : gain2 i b st c = addC (putAll [] ((putAll [] (c.map (shS st))).map (shN 2))) (putAll [] ((putAll [] (c.map (shS st))).map (shM 2))) := by unfold gain2; rw [h]; rfl
theorem gain2_f {i : Nat} {b : Bool} {st : Int} {c : List (Int × Int)} (h : rg i b = false) : gain2 i b st c = putAll [] (c.map (shS st)) := by unfold gain2; rw [h]; rfl
theorem gain2_len {i : Nat} {b : Bool} {st : Int} {c : List (Int × Int)} (h : c.length ≤ 1000) : (gain2 i b st c).length ≤ 1000000 := by
  have hj := pa_len (f := shS st) h
  cases hr : rg i b with
  | false => rw [gain2_f hr]; omega
  | true =>
    rw [gain2_t hr]
    have h1 := pa_len (f := shN 2) hj
    have h2 := pa_len (f := shM 2) hj
    have h3 := addC_len (putAll [] ((putAll [] (c.map (shS st))).map (shN 2))) (putAll [] ((putAll [] (c.map (shS st))).map (shM 2)))
    omega
theorem tabd_set2 {w : World} {A : Around} {E : Value → Shared → Prop} {s : Shared} {h₀ : Heap} {L d : Addr} {m : Str → Option Value} {news n2 : List (Addr × Obj)} {g : Obj → List (Addr × Obj)} {o : Obj} {t : Tab}
    {i : Nat} {tk : Tok} {Q : Unit → Shared → Prop} {c : List (Int × Int)} {a : Addr} {oa : Obj} (F : Fr h₀ L s.heap m) (N : News h₀ L s.heap news) (_hm : (a, oa) ∈ news) (U : UpdF d o news g)
    (T : TabD w n2 o t) (hs : smallT t = true) (hi : i < 5) (lo : (a == sysModules) = false) (hd : IntD w oa c)
    (h : ∀ h' o', Fr h₀ L h' m → News h₀ L h' (g o') → TabD w ((a, oa) :: n2) o' (putT t i c) → Q () { s with heap := h', toks := s.toks + 1 }) :
    wpAny (model pr w) A (setItem (.ref d) (.str (wS i) tk) (.ref a)) Q E s :=
  tabd_set F N U (T.mono fun _ hp => .tail _ hp) hs hi (.head _) lo hd h
theorem tabd_item2 {w : World} {A : Around} {E : Value → Shared → Prop} {s : Shared} {h₀ : Heap} {L d : Addr} {news n2 : List (Addr × Obj)} {o : Obj} {t : Tab} {i : Nat} {tk : Tok} {value slice : PySem.Expr} {Q : Value → Shared → Prop} {c : List (Int × Int)} (N : News h₀ L s.heap news) (hp : (d, o) ∈ news) (T : TabD w n2 o t) (hs : smallT t = true) (hi : i < 5) (hl : lk t i = some c) (hsub : ∀ p ∈ n2, p ∈ news)
    (h : ∀ a oa, (a, oa) ∈ news → (a == sysModules) = false → IntD w oa c → Q (.ref a) { s with toks := s.toks + 1 })
    (hsb : subscripted slice false (.ref d) (.str (wS i) tk) = operate [.ref d, .str (wS i) tk] (getItem (.ref d) (.str (wS i) tk)) := by with_unfolding_all rfl) (hg : ∀ r, letTemporaryGo value (.ref d) r = pure () := by intro _; with_unfolding_all rfl) :
    wpAny (model pr w) A (subscriptTail value slice (.ref d) (.str (wS i) tk)) Q E s := tabd_item N hp T hs hi hl (fun a oa h1 h2 h3 => h a oa (hsub _ h1) h2 h3) hsb hg
theorem intD_nil {w : World} {o : Obj} (h : o.IsDictOf (PySem.intKind pr w) []) : IntD w o [] := ⟨[], h, .nil⟩
theorem items_two {prog : Program} {w : World} {A : Around} {E : Value → Shared → Prop} {s : Shared} {env : Env} {h₀ : Heap} {target : PySem.Expr} {body : List Stmt} {Q : Flow → Shared → Prop} {β : Type} {ws : List (Addr × String)} {keep : List (Addr × Obj)} {x1 x2 : Value} (d1 d2 : β) (J : (Str → Option Value) → List (Addr × Obj) → List (Value × β) → (Str → Option Value) → List (Addr × Obj) → Prop)
    {m₀ : Str → Option Value} {n₀ : List (Addr × Obj)} (h0 : J m₀ n₀ [(x1, d1), (x2, d2)] m₀ n₀)
    (turn : ∀ a r m news v h tk, J m₀ n₀ (a :: r) m news → v = a.1 → Fr h₀ env.locals h m → AllObj ws (fun its => News h₀ env.locals h (its ++ news) →
      wpAny (model prog w) A (assign target env v) (fun _ s₂ => wpAny (model prog w) A (execs body env) (UnrPostW h₀ env.locals { s with heap := h, toks := tk } its (fun m' n' => SubL keep n' ∧ J m₀ n₀ r m' n') Q) E s₂) E { s with heap := h, toks := tk }))
    (zero : ∀ m news h tk, J m₀ n₀ [] m news → Fr h₀ env.locals h m → News h₀ env.locals h news → Q .next { s with heap := h, toks := tk }) :
    ItemsRest prog w A E h₀ env target body Q s ws keep [.val x1, .val x2] m₀ n₀ :=
  items_ind (α := Value × β) (xs := [(x1, d1), (x2, d2)]) (fun a => .val a.1) J h0 turn zero

def okP : List (Nat × List (Int × Int)) → Tab → Prop
  | [], _ => True
  | p :: r, G => smallT (grow G p.1 p.2) = true ∧ p.1 < 5 ∧ p.2.length ≤ 1000000 ∧ okP r (grow G p.1 p.2)
end Mine
end
section
open PySem PySem.W PyProof.Rows PySem.Calls PySem.Spec PyProof.V PyProof.Rows.LCg PyProof.Rows.LCt
set_option maxRecDepth 100000
namespace Mine
section
variable {prog : Program} {w : World} {A : Around} {E : Value → Shared → Prop} {s : Shared} {h₀ : Heap} {L : Addr} {m : Str → Option Value} {env : Env}
theorem CompEnd.mono {s₁ : Shared} {I C D : Addr} {oI oC oD : Obj} {S : List (Addr × Obj) → Prop} {rest rest' : Value → List (Addr × Obj) → Prop} {y : Value} {s₂ : Shared} (hr : ∀ y n, rest y n → rest' y n) (h : CompEnd h₀ L m s₁ I oI C oC D oD S rest y s₂) : CompEnd h₀ L m s₁ I oI C oC D oD S rest' y s₂ := by
  obtain ⟨h', tk, news', e, F, N, o, hS, r⟩ := h
  exact ⟨h', tk, news', e, F, N, o, hS, hr _ _ r⟩
/-- an element that makes nothing -/
theorem CompEnd.same {I C D : Addr} {oI oC oD : Obj} {S : List (Addr × Obj) → Prop} {rest : Value → List (Addr × Obj) → Prop} {y : Value} {h : Heap} {tk tk' : Nat} {news : List (Addr × Obj)} (F : Fr h₀ L h m) (N : News h₀ L h ((I, oI) :: (C, oC) :: (D, oD) :: news)) (off : Off3 I C D news) (hS : S news) (r : rest y news) :
    CompEnd h₀ L m { s with heap := h, toks := tk } I oI C oC D oD S rest y { s with heap := h, toks := tk' } := ⟨h, tk', news, rfl, F, N, off, hS, r⟩
theorem comp_ind {α : Type} {elt : PySem.Expr} {x : Str} {scope : Scope} {cl : List (Str × Addr)} {S : List (Addr × Obj) → Prop} {P : Nat → Value → Prop} {Fin : List Value → List (Addr × Obj) → Prop} {n : Nat} (xs : List α) (f : α → Value → Prop) (hn : n = xs.length) (hP : ∀ i v, P i v → ∃ a, xs[i]? = some a ∧ f a v) (J : List α → List Value → List (Addr × Obj) → Prop)
    (turn : ∀ a r ys news v I oI C oC D m₂ h tk (E' : Value → Shared → Prop), J (a :: r) ys news → f a v → NsObj oC m₂ → m₂ x = some v → Fr h₀ L h m → News h₀ L h ((I, oI) :: (C, oC) :: (D, lst ys) :: news) → Off3 I C D news → ((@Ne Nat I C) ∧ (@Ne Nat I D) ∧ (@Ne Nat C D)) →
      wpAny (model prog w) A (eval elt (compEnvC scope cl C env)) (CompEnd h₀ L m { s with heap := h, toks := tk } I oI C oC D (lst ys) S (fun y news' => J r (ys ++ [y]) news')) E' { s with heap := h, toks := tk })
    (fin : ∀ ys news, J [] ys news → Fin ys news) {news : List (Addr × Obj)} (h0 : J xs [] news) :
    CompRest prog w A h₀ L m env elt x scope cl s S P Fin n 0 [] news := by
  have go : ∀ k i ys news, k + i = xs.length → J (xs.drop i) ys news → CompRest prog w A h₀ L m env elt x scope cl s S P Fin k i ys news := by
    intro k
    induction k with
    | zero =>
      intro i ys news e h
      rw [List.drop_eq_nil_of_le (by omega)] at h
      exact CompRest.zero (fin _ _ h)
    | succ k ih =>
      intro i ys news e h
      refine CompRest.succ fun v I oI C oC D m₂ h1 tk E' hp hC hx F N off ne => ?_
      obtain ⟨a, ha, hf⟩ := hP i v hp
      have hd : xs.drop i = a :: xs.drop (i + 1) := by
        have hlt : i < xs.length := by omega
        rw [List.drop_eq_getElem_cons hlt]
        congr 1
        exact Option.some.inj ((List.getElem?_eq_getElem hlt).symm.trans ha)
      rw [hd] at h
      exact wpAny_mono (turn a _ ys news v I oI C oC D m₂ h1 tk E' h hf hC hx F N off ne) (fun y s₂ hy => CompEnd.mono (fun y n hj => ih (i + 1) _ _ (by omega) hj) hy) fun _ _ e => e
  exact go n 0 [] news (by omega) (by simpa using h0)
theorem compT_ind {α : Type} {ct elt : PySem.Expr} {x : Str} {scope : Scope} {cl : List (Str × Addr)} {S : List (Addr × Obj) → Prop} {P : Nat → Value → Prop} {Fin : List Value → List (Addr × Obj) → Prop} {n : Nat} (xs : List α) (f : α → Value → Prop) (hn : n = xs.length) (hP : ∀ i v, P i v → ∃ a, xs[i]? = some a ∧ f a v) (J : List α → List Value → List (Addr × Obj) → Prop)
    (turn : ∀ a r ys news v I oI C oC D m₂ h tk (E' : Value → Shared → Prop), J (a :: r) ys news → f a v → NsObj oC m₂ → m₂ x = some v → Fr h₀ L h m → News h₀ L h ((I, oI) :: (C, oC) :: (D, lst ys) :: news) → Off3 I C D news → ((@Ne Nat I C) ∧ (@Ne Nat I D) ∧ (@Ne Nat C D)) →
      wpAny (model prog w) A (isTrue ct (compEnvC scope cl C env) (eval ct (compEnvC scope cl C env))) (fun ok s' => if ok = true then
        wpAny (model prog w) A (eval elt (compEnvC scope cl C env)) (CompEnd h₀ L m { s with heap := h, toks := tk } I oI C oC D (lst ys) S (fun y news' => J r (ys ++ [y]) news')) E' s'
        else CompEnd h₀ L m { s with heap := h, toks := tk } I oI C oC D (lst ys) S (fun _ news' => J r ys news') Value.none s') E' { s with heap := h, toks := tk })
    (fin : ∀ ys news, J [] ys news → Fin ys news) {news : List (Addr × Obj)} (h0 : J xs [] news) :
    CompRestT prog w A h₀ L m env ct elt x scope cl s S P Fin n 0 [] news := by
  have go : ∀ k i ys news, k + i = xs.length → J (xs.drop i) ys news → CompRestT prog w A h₀ L m env ct elt x scope cl s S P Fin k i ys news := by
    intro k
    induction k with
    | zero =>
      intro i ys news e h
      rw [List.drop_eq_nil_of_le (by omega)] at h
      exact CompRestT.zero (fin _ _ h)
    | succ k ih =>
      intro i ys news e h
      refine CompRestT.succ fun v I oI C oC D m₂ h1 tk E' hp hC hx F N off ne => ?_
      obtain ⟨a, ha, hf⟩ := hP i v hp
      have hd : xs.drop i = a :: xs.drop (i + 1) := by
        have hlt : i < xs.length := by omega
        rw [List.drop_eq_getElem_cons hlt]
        congr 1
        exact Option.some.inj ((List.getElem?_eq_getElem hlt).symm.trans ha)
      rw [hd] at h
      refine wpAny_mono (turn a _ ys news v I oI C oC D m₂ h1 tk E' h hf hC hx F N off ne) (fun ok s₂ hy => ?_) fun _ _ e => e
      cases ok with
      | true =>
        simp only [if_true] at hy ⊢
        exact wpAny_mono hy (fun y s₃ hy => CompEnd.mono (fun y n hj => ih (i + 1) _ _ (by omega) hj) hy) fun _ _ e => e
      | false =>
        simp only [Bool.false_eq_true, if_false] at hy ⊢
        exact CompEnd.mono (fun y n hj => ih (i + 1) _ _ (by omega) hj) hy
  exact go n 0 [] news (by omega) (by simpa using h0)

theorem str_st {x : Str} {t : Tok} {I : Addr} : ∀ i (h h' : Heap) (o : Obj) (nw : List (Addr × Obj)), h.IsStrIter I "str_ascii_iterator" x t i → h.get? I = some o → h'.get? I = some o → (∀ b o, h₀.get? b = some o → h'.get? b = some o) → News h₀ L h' nw → True → h'.IsStrIter I "str_ascii_iterator" x t i :=
  fun i h h' o nw st e e' _ _ _ => by obtain ⟨o', q, r⟩ := st; rw [e] at q; cases q; exact ⟨o, e', r⟩

theorem ListComp_S {elt iter : PySem.Expr} {x : Str} {px : Pos} {scope : Scope} {cl : List (Str × Addr)} {pos : Pos} {Q : Value → Shared → Prop} (F₀ : Fr h₀ L s.heap m)
    (hclos : closureFor scope env = pure cl) (hcell : ∀ y ∈ scope.names, y.2 ≠ .cell) (hkind : scope.kind = .function)
    (hnames : ∀ y ∈ scope.names, y.2 = .local → scope.names.lookup y.1 = some .local) (hx : scope.names.lookup x = some .local)
    (h : wpAny (model prog w) A (eval iter env) (fun xv s₁ => ∃ tx t news, xv = .str tx t ∧ A.handled = none ∧ Fr h₀ L s₁.heap m ∧ News h₀ L s₁.heap news ∧ tx.cps.all (· < 128) = true ∧ tx.cps.size ≤ sizeLine ∧
      ∀ s₂ : Shared, (∃ h, s₂ = { s₁ with heap := h }) → CompRest prog w A h₀ L m env elt x scope cl s₂ (fun _ => True) (SignAt tx) (FinE h₀ L m s₂ Q) tx.cps.size 0 [] news) E s)
    (hs : ∀ x, foldedSetIterable iter env x = pure x := by intro _; rfl) :
    wpAny (model prog w) A (eval (.ListComp elt [⟨.Name x px, iter, [], 0⟩] scope pos) env) Q E s := by
  rw [eval_ListComp]
  refine wpAny_comprehension_free (use := none) rfl hs hclos hkind hnames (wpAny_mono h (fun xv s₁ h₁ => ?_) fun _ _ e => e)
  obtain ⟨tx, t, news, rfl, hh, F, N, ha, hsz, R⟩ := h₁
  refine wpAny_pyIter_ascii ha ?_
  refine block_U (Walks.strAscii hh s₁.heap.objs.size tx t) hsz (fun i h st => by obtain ⟨o, e, _⟩ := st; exact ⟨o, e⟩) str_st hcell hkind hx ⟨_, Heap.get?_push_size _ rfl, rfl, rfl⟩ (fun b hb => ?_)
    (F.push _) (fun p hp => ⟨Heap.get?_push_of_some _ (N p hp).1, (N p hp).2⟩) (Nat.ne_of_lt F.ns.lt) (next_is_new F) (fun p hp => Nat.ne_of_lt (Heap.lt_size (N p hp).1)) trivial (R _ ⟨_, rfl⟩) ?_
  · rw [List.mem_singleton.mp hb]
    show s₁.heap.objs.size < (s₁.heap.push _).objs.size
    rw [Heap.size_push]; exact Nat.lt_succ_self _
  · intro D C h tk m' ys news' F' N' o1 hn hC₀ hD₀ hCL hDL hCD offC fin
    refine ⟨m', hn, fun h'' hs'' => fin D h'' tk (F'.change hs'' hCL hC₀) (fun p hp => ?_) o1⟩
    refine ⟨hs''.extBut _ _ ?_ (N' p hp).1, (N' p hp).2⟩
    rcases List.mem_cons.mp hp with rfl | hp
    · exact Ne.symm hCD
    · exact offC p hp
end
end Mine
end
section
open PySem PySem.W PyProof.Rows PySem.Calls PySem.Spec PyProof.V PyProof.Rows.LCg
set_option maxRecDepth 100000
namespace Mine
section
variable {prog : Program} {w : World} {A : Around} {E : Value → Shared → Prop} {s : Shared} {h₀ : Heap} {L : Addr} {m : Str → Option Value} {env : Env}

theorem block_K {elt iter : PySem.Expr} {a b : Str} {pa pb tp : Pos} {kk : Nat} {scope : Scope} {cl : List (Str × Addr)} {pos : Pos} {s₂ : Shared} {I : Addr} {fp wr : List Addr} {n : Nat} {Md : Nat → Value → Heap → Prop} {St : Nat → Heap → Prop} {Pr : Nat → Value → Value → Prop} {J : Nat → List Value → Prop} {RR : Value → Addr → Result → Shared → Prop}
    (W : KTurns prog w A (.Tuple [.Name a pa, .Name b pb] kk tp) I fp wr n (fun i v h => ∃ T x y, v = .ref T ∧ Pr i x y ∧ h.IsTuple T #[x, y]) Md St) (hh : A.handled = none) (hsz : n ≤ sizeLine) (hfp : ∀ b ∈ fp, b < s₂.heap.objs.size)
    (hcell : ∀ y ∈ scope.names, y.2 ≠ .cell) (hkind : scope.kind = .function) (hxa : scope.names.lookup a = some .local) (hxb : scope.names.lookup b = some .local) (hab : ¬ a = b)
    (hst : St 0 s₂.heap) (hself : ∀ (s' : Shared) (Q : Value → Shared → Prop) (E : Value → Shared → Prop), St 0 s'.heap → Q (.ref I) s' → wpAny (model prog w) A (pyIter (.ref I)) Q E s')
    (h0 : J 0 [])
    (hel : ∀ C i x y ys (s' : Shared) m₂ (E' : Value → Shared → Prop), i < n → Pr i x y → J i ys → s'.heap.Ns C m₂ → m₂ a = some x → m₂ b = some y → (∀ b o, b ∉ wr → s₂.heap.get? b = some o → s'.heap.get? b = some o) →
      wpAny (model prog w) A (eval elt (compEnvC scope cl C env)) (fun z s₃ => J (i + 1) (ys ++ [z]) ∧ Keeps s' s₃) E' s')
    (hRR : ∀ D C h' tk m' ys, s₂.heap.objs.size ≤ D → s₂.heap.get? C = none → D ≠ C → h'.Ns C m' → h'.get? D = some (lst ys) → J n ys → (∀ b o, b ∉ wr → s₂.heap.get? b = some o → h'.get? b = some o) → RR (.ref D) C (.ok .next) { s₂ with heap := h', toks := tk }) :
    wpAny (model prog w) A (newList []) (fun acc s₃ => wpAny (model prog w) A (newFunctionEnv scope env.globals cl [] env.qual none .none (some env)) (fun cenv s₄ =>
      codeAny (model prog w) A (.compStart (.ListComp elt [⟨.Tuple [.Name a pa, .Name b pb] kk tp, iter, [], 0⟩] scope pos) 0 (.ref I) acc { cenv with scope := relabel scope env }) (RR acc cenv.locals) s₄) E s₃) E s₂ := by
  refine wpAny_newObj_type (wpAny_newFunctionEnv hcell (by intro y hy; simp at hy) (fun h₁ hns₁ hsb₁ => ?_) hkind)
  dsimp only at hns₁ hsb₁ ⊢
  generalize hH2 : s₂.heap.push { cls := .type "list", dict := none, data := .seq ([] : List Value).toArray } = H2 at hns₁ hsb₁ ⊢
  have hC : H2.objs.size = s₂.heap.objs.size + 1 := by rw [← hH2, Heap.size_push]
  have hDC : s₂.heap.objs.size ≠ H2.objs.size := by rw [hC]; exact Nat.ne_of_lt (Nat.lt_succ_self _)
  have below : ∀ b, b < s₂.heap.objs.size → b ≠ H2.objs.size ∧ b ≠ s₂.heap.objs.size := fun b hb => ⟨by rw [hC]; exact Nat.ne_of_lt (Nat.lt_succ_of_lt hb), Nat.ne_of_lt hb⟩
  have hDf : s₂.heap.objs.size ∉ fp := fun hm => Nat.lt_irrefl _ (hfp _ hm)
  have hCf : H2.objs.size ∉ fp := fun hm => by have := hfp _ hm; rw [hC] at this; exact Nat.lt_irrefl _ (Nat.lt_of_succ_lt this)
  have hDw : s₂.heap.objs.size ∉ wr := fun hm => hDf (W.sub _ hm)
  have hCw : H2.objs.size ∉ wr := fun hm => hCf (W.sub _ hm)
  have old : ∀ b o, s₂.heap.get? b = some o → h₁.get? b = some o := fun b o e => hsb₁.extBut b o (below b (Heap.lt_size e)).1 (Heap.get?_push_of_some _ (hH2 ▸ Heap.get?_push_of_some _ e))
  have hacc : h₁.get? s₂.heap.objs.size = some (lst []) := hsb₁.extBut _ _ hDC (Heap.get?_push_of_some _ (hH2 ▸ Heap.get?_push_size _ rfl))
  have hst₁ : St 0 h₁ := W.frame _ _ _ hst fun b _ o e => old b o e
  have fresh : ∀ a, s₂.heap.objs.size ≤ a → s₂.heap.get? a = none := fun a ha => by
    cases e : s₂.heap.get? a with
    | none => rfl
    | some o' => exact absurd (Heap.lt_size e) (Nat.not_lt.mpr ha)
  have loop : ∀ s₃ : Shared, s₃ = { s₂ with heap := h₁, toks := s₂.toks + ([] : List (Str × Value)).length } →
      codeAny (model prog w) A (.compLoop (.ListComp elt [⟨.Tuple [.Name a pa, .Name b pb] kk tp, iter, [], 0⟩] scope pos) 0 (.ref I) (.ref s₂.heap.objs.size) (compEnvC scope cl H2.objs.size env))
        (RR (.ref s₂.heap.objs.size) H2.objs.size) s₃ := by
    rintro s₃ rfl
    refine kcp_loop
      (fun k s' => ∃ h' tk i ys m', s' = { s₂ with heap := h', toks := tk } ∧ i ≤ n ∧ k = n + 1 - i ∧ ys.length = i ∧ St i h' ∧ h'.Ns H2.objs.size m' ∧ h'.get? s₂.heap.objs.size = some (lst ys) ∧ J i ys ∧
        ∀ b o, b ∉ wr → s₂.heap.get? b = some o → h'.get? b = some o) ?_ (n + 1)
      ⟨h₁, _, 0, [], _, rfl, Nat.zero_le _, rfl, rfl, hst₁, hns₁, hacc, h0, fun b o _ e => old b o e⟩
    rintro k s' ⟨h', tk, i, ys, m', rfl, hi, rfl, hyl, hst', hn', hD', hJ, hk'⟩
    by_cases hlt : i < n
    · refine W.item i _ _ _ hlt hst' fun v h₂ tk₂ hMd hk₂ => ?_
      refine W.go i v _ _ _ hMd fun h₃ hP hst₃ hk₃ => ?_
      obtain ⟨T, x, y, rfl, hPr, hT⟩ := hP
      have up₃ : ∀ b o, b ∉ wr → h'.get? b = some o → h₃.get? b = some o := fun b o hb e => hk₃ b o hb (hk₂ b o hb e)
      refine kcp_assign hh hT (lookup_relabel_local hxa) (lookup_relabel_local hxb) (by simp [compEnvC, relabel, hkind]) (hn'.at' fun o e => up₃ _ o hCw e) fun h₄ tk₄ hn₄ hk₄ => ?_
      have hk₄' : ∀ b o, b ≠ H2.objs.size → h₃.get? b = some o → h₄.get? b = some o := hk₄
      refine wpAny_mono (hel _ i x y ys _ _ _ hlt hPr hJ hn₄ (by simp [hab]) (by simp) fun b o hb e => hk₄' b o (below b (Heap.lt_size e)).1 (up₃ b o hb (hk' b o hb e))) (fun z s₅ h₅ => ?_) fun _ _ e => e
      obtain ⟨hJ', h₅, tk₅, rfl, hk₅⟩ := h₅
      have hD₅ : h₅.get? s₂.heap.objs.size = some (lst ys) := hk₅ _ _ (hk₄' _ _ hDC (up₃ _ _ hDw hD'))
      refine append_at (hsz := by show ys.toArray.size ≤ sizeLine; rw [List.size_toArray, hyl]; exact Nat.le_trans hi hsz) hD₅ fun h₆ hs₆ hD₆ => ?_
      refine ⟨n + 1 - (i + 1), by omega, h₆, tk₅, i + 1, ys ++ [z], _, rfl, hlt, rfl, by rw [List.length_append, List.length_singleton, hyl], ?_, (hn₄.keeps hk₅).sameBut hs₆ (Ne.symm hDC), hD₆.trans (congrArg some (lst_snoc ys z)), hJ', fun b o hb e => ?_⟩
      · exact W.frame _ _ _ hst₃ fun b hb o e => hs₆.extBut b o (fun q => hDf (q ▸ hb)) (hk₅ _ _ (hk₄' b o (fun q => hCf (q ▸ hb)) e))
      · exact hs₆.extBut b o (below b (Heap.lt_size e)).2 (hk₅ _ _ (hk₄' b o (below b (Heap.lt_size e)).1 (up₃ b o hb (hk' b o hb e))))
    · obtain rfl : i = n := Nat.le_antisymm hi (Nat.not_lt.mp hlt)
      refine W.done _ _ _ hst' fun h₂ tk₂ hk₂ => ?_
      exact hRR _ _ h₂ tk₂ _ ys (Nat.le_refl _) (fresh _ (by rw [hC]; exact Nat.le_succ _)) hDC (hn'.at' fun o e => hk₂ _ o hCw e) (hk₂ _ _ hDw hD') hJ fun b o hb e => hk₂ b o hb (hk' b o hb e)
  exact codeAny_compStart_list (loop _ rfl) (hself _ _ _ hst₁ (loop _ rfl))

/-- what a list comprehension over pairs wants: a source, an element that changes nothing -/
def KSrc (prog : Program) (w : World) (A : Around) (h₀ : Heap) (L : Addr) (env : Env) (elt : PySem.Expr) (a b : Str) (pa pb tp : Pos) (kk : Nat) (scope : Scope) (cl : List (Str × Addr)) (Fin : (Str → Option Value) → List (Addr × Obj) → Shared → List Value → Prop) (E : Value → Shared → Prop) (xv : Value) (s₁ : Shared) : Prop :=
  ∃ (hb : Heap) (m : Str → Option Value) (news : List (Addr × Obj)) (n : Nat) (Pr : Nat → Value → Value → Prop) (J : Nat → List Value → Prop), Fr h₀ L hb m ∧ News h₀ L hb news ∧ n ≤ sizeLine ∧ J 0 [] ∧
    (∀ C i x y ys (s' : Shared) m₂ (E' : Value → Shared → Prop), i < n → Pr i x y → J i ys → s'.heap.Ns C m₂ → m₂ a = some x → m₂ b = some y → (∀ b o, hb.get? b = some o → s'.heap.get? b = some o) →
      wpAny (model prog w) A (eval elt (compEnvC scope cl C env)) (fun z s₃ => J (i + 1) (ys ++ [z]) ∧ Keeps s' s₃) E' s') ∧
    (∀ ys, J n ys → Fin m news s₁ ys) ∧
    wpAny (model prog w) A (pyIter xv) (fun it s₂ => ∃ (I : Addr) (fp wr : List Addr) (Md : Nat → Value → Heap → Prop) (St : Nat → Heap → Prop), it = .ref I ∧
      KTurns prog w A (.Tuple [.Name a pa, .Name b pb] kk tp) I fp wr n (fun i v h => ∃ T x y, v = .ref T ∧ Pr i x y ∧ h.IsTuple T #[x, y]) Md St ∧ (∀ b ∈ fp, b < s₂.heap.objs.size) ∧ (∀ b ∈ wr, hb.get? b = none) ∧ St 0 s₂.heap ∧
      (∀ (s' : Shared) (Q : Value → Shared → Prop) (E : Value → Shared → Prop), St 0 s'.heap → Q (.ref I) s' → wpAny (model prog w) A (pyIter (.ref I)) Q E s') ∧ ∃ h tk, s₂ = { s₁ with heap := h, toks := tk } ∧ ∀ b o, hb.get? b = some o → h.get? b = some o) E s₁

theorem Assign_ListComp_K {elt iter : PySem.Expr} {a b y : Str} {pa pb tp py : Pos} {kk : Nat} {scope : Scope} {cl : List (Str × Addr)} {pos spos : Pos} {Q : Flow → Shared → Prop} (hh : A.handled = none) (hLe : env.locals = L)
    (hsw : swapsWith (.ListComp elt [⟨.Tuple [.Name a pa, .Name b pb] kk tp, iter, [], 0⟩] scope pos) (some (.Name y py)) spos.line env = pure true)
    (hclos : closureFor scope env = pure cl) (hcell : ∀ y ∈ scope.names, y.2 ≠ .cell) (hkind : scope.kind = .function)
    (hnames : ∀ y ∈ scope.names, y.2 = .local → scope.names.lookup y.1 = some .local) (hxa : scope.names.lookup a = some .local) (hxb : scope.names.lookup b = some .local) (hab : ¬ a = b)
    (hy : env.kindOf y = some .local) (hp : (env.scope.kind == .class || (env.scope.kind == .module && env.locals != env.globals)) = false)
    (h : wpAny (model prog w) A (eval iter env) (KSrc prog w A h₀ L env elt a b pa pb tp kk scope cl (fun m news s₁ ys => ∀ D h tk, Fr h₀ L h (fun z => if z = y then some (.ref D) else m z) → News h₀ L h ((D, lst ys) :: news) → (∀ p ∈ news, p.1 < D) → Q .next { s₁ with heap := h, toks := tk }) E) E s)
    (hs : ∀ x, foldedSetIterable iter env x = pure x := by intro _; rfl) :
    wpAny (model prog w) A (exec (.Assign [.Name y py] (.ListComp elt [⟨.Tuple [.Name a pa, .Name b pb] kk tp, iter, [], 0⟩] scope pos) spos) env) Q E s := by
  subst hLe
  rw [exec_Assign_Name_used _ _ _ _ hsw]
  refine wpAny_bind (wpAny_standAt (wpAny_bind ?_))
  show wpAny _ A (do let _ ← comprehension (.ListComp elt [⟨.Tuple [.Name a pa, .Name b pb] kk tp, iter, [], 0⟩] scope pos) scope env _ (newList []) false (eval iter env) (some (assign (.Name y py) env))) _ _ s
  refine wpAny_bind (wpAny_mono (wpAny_comprehension_free (use := some (assign (.Name y py) env)) (Q := fun _ s' => Q .next s') rfl hs hclos hkind hnames
    (wpAny_mono h (fun xv s₁ h₁ => ?_) fun _ _ e => e)) (fun _ s' hq => wpAny_pure (wpAny_pure hq)) fun _ _ e => e)
  obtain ⟨hb, m, news, n, Pr, J, F, N, hsz, h0, hel, hfin, hit⟩ := h₁
  refine wpAny_mono hit (fun it s₂ h₂ => ?_) fun _ _ e => e
  obtain ⟨I, fp, wr, Md, St, rfl, W, hfp, hwr, hst, hself, hp2, tk, rfl, hk⟩ := h₂
  have ow : ∀ b o, hb.get? b = some o → b ∉ wr := fun b o e hb => by rw [hwr b hb] at e; cases e
  refine block_K W hh hsz hfp hcell hkind hxa hxb hab hst hself h0 (fun C i x y ys s' m₂ E' h1 h2 h3 h4 h5 h6 h7 => hel C i x y ys s' m₂ E' h1 h2 h3 h4 h5 h6 fun b o e => h7 b o (ow b o e) (hk b o e)) ?_
  intro D C h' tk' m' ys hD hCn hDC hn hacc hJ hkeep
  have hlt : ∀ b o, hb.get? b = some o → b < D := fun b o e => Nat.lt_of_lt_of_le (Heap.lt_size (hk b o e)) hD
  have hLD : env.locals < D := by obtain ⟨o, _, _, ho, _⟩ := F.ns; exact hlt _ o ho
  have hLC : env.locals ≠ C := by
    rintro e
    obtain ⟨o, _, _, ho, _⟩ := F.ns
    rw [e] at ho
    rw [hk _ _ ho] at hCn; cases hCn
  show wpAny _ A (assign (.Name y py) env (.ref D)) _ _ _
  refine wpAny_assign_Name (wpAny_storeName_local hy (F.ns.at' fun o e => hkeep _ o (ow _ o e) (hk _ o e)) (fun h₂ hn₂ hs₂ => ?_) hp)
  replace hs₂ : Heap.SameBut env.locals h' h₂ := hs₂
  refine ⟨m', hn.sameBut hs₂ (Ne.symm hLC), fun h₃ hs₃ => ?_⟩
  replace hs₃ : Heap.SameBut C h₂ h₃ := hs₃
  have keep : ∀ b o, b ≠ env.locals → hb.get? b = some o → h₃.get? b = some o := fun b o hb e =>
    hs₃.extBut b o (fun q => by subst q; rw [hk b o e] at hCn; cases hCn) (hs₂.extBut b o hb (hkeep b o (ow b o e) (hk b o e)))
  have hD₃ : h₃.get? D = some (lst ys) := hs₃.extBut _ _ hDC (hs₂.extBut _ _ (Nat.ne_of_gt hLD) hacc)
  refine hfin ys hJ D h₃ _ ⟨hn₂.sameBut hs₃ hLC, fun b o e => keep b o (Nat.ne_of_lt (Nat.lt_of_lt_of_le (Heap.lt_size e) F.above)) (F.keep b o e), F.above⟩ (fun p hp => ?_) (fun p hp => hlt _ _ (N p hp).1)
  rcases List.mem_cons.mp hp with rfl | hp
  · refine ⟨hD₃, Nat.ne_of_gt hLD, ?_⟩
    cases e : h₀.get? D with
    | none => rfl
    | some o' => exact absurd (hlt _ _ (F.keep _ _ e)) (Nat.lt_irrefl _)
  · exact ⟨keep _ _ (N p hp).2.1 (N p hp).1, (N p hp).2⟩

theorem KTurns.imp {target : PySem.Expr} {I : Addr} {fp wr : List Addr} {n : Nat} {P P' Md : Nat → Value → Heap → Prop} {St : Nat → Heap → Prop} (W : KTurns prog w A target I fp wr n P Md St) (hp : ∀ i v h, P i v h → P' i v h) : KTurns prog w A target I fp wr n P' Md St where
  sub := W.sub
  frame := W.frame
  item := W.item
  go := fun i v s Q E hM hQ => W.go i v s Q E hM fun h' hP hs hk => hQ h' (hp _ _ _ hP) hs hk
  done := W.done
/-- enumerate over a list of the ledger, as a source -/
theorem enum_src {l : Addr} {lo : Obj} {vs : List Value} {n : Nat} {news : List (Addr × Obj)} {elt : PySem.Expr} {a b : Str} {pa pb tp : Pos} {kk : Nat} {scope : Scope} {cl : List (Str × Addr)} {Fin : (Str → Option Value) → List (Addr × Obj) → Shared → List Value → Prop} (J : Nat → List Value → Prop)
    (hh : A.handled = none) (F : Fr h₀ L s.heap m) (N : News h₀ L s.heap news) (hm : (l, lo) ∈ news) (hc : lo.cls = .type "list") (hd : lo.data = .seq vs.toArray n) (hsz : vs.length ≤ sizeLine) (h0 : J 0 [])
    (hel : ∀ C (i : Nat) (x : Int) t y ys (s' : Shared) m₂ (E' : Value → Shared → Prop), x = (i : Int) → vs[i]? = some y → J i ys → s'.heap.Ns C m₂ → m₂ a = some (.int x t) → m₂ b = some y → (∀ b o, s.heap.get? b = some o → s'.heap.get? b = some o) →
      wpAny (model prog w) A (eval elt (compEnvC scope cl C env)) (fun z s₃ => J (i + 1) (ys ++ [z]) ∧ Keeps s' s₃) E' s')
    (hfin : ∀ (h : Heap), (∀ b o, s.heap.get? b = some o → h.get? b = some o) → ∀ ys, J vs.length ys → Fin m news { s with heap := h } ys) :
    wpAny (model prog w) A (call (.type "enumerate") [.ref l]) (KSrc prog w A h₀ L env elt a b pa pb tp kk scope cl Fin E) E s := by
  have hax := N _ hm
  have hl : s.heap.IsList l vs.toArray := ⟨lo, hax.1, hc, n, hd⟩
  have hlt : l < s.heap.objs.size := Heap.lt_size hax.1
  refine call_enumerate_list hl fun h' hE hI hsz' hk => ?_
  have fresh : ∀ a, s.heap.objs.size ≤ a → s.heap.get? a = none := fun a ha => by
    cases e : s.heap.get? a with
    | none => rfl
    | some o' => exact absurd (Heap.lt_size e) (Nat.not_lt.mpr ha)
  have W := KTurns.imp (P' := fun i v h => ∃ T x y, v = .ref T ∧ (∃ t, x = Value.int (i : Int) t ∧ vs[i]? = some y) ∧ h.IsTuple T #[x, y]) (KTurns.ofWalksU (elts := [.Name a pa, .Name b pb]) (k := kk) (pos := tp) (WalksT.enumerate (prog := prog) (w := w) hh (s.heap.objs.size + 1) s.heap.objs.size l (Nat.succ_ne_self _) (ktu_ne 1 hlt) (Nat.ne_of_lt hlt) vs.toArray).toU) (by
    rintro i v h ⟨T, vals, rfl, ⟨t, x, hx, rfl⟩, hT⟩
    exact ⟨T, _, x, rfl, ⟨t, rfl, by simpa using hx⟩, hT⟩)
  refine ⟨s.heap, m, news, vs.toArray.size, _, J, F, N, by simpa using hsz, h0, ?_, ?_, wpAny_pyIter_enum hE ⟨_, _, _, _, _, rfl, W, ?_, ?_, ⟨⟨_, hE⟩, hI, hl.at fun o e => hk _ o e⟩, ?_, _, _, rfl, hk⟩⟩
  · rintro C i x y ys s' m₂ E' _ ⟨t, rfl, hy⟩ hJ hn h1 h2 hkeep
    exact hel C i _ t y ys s' m₂ E' rfl hy hJ hn h1 h2 hkeep
  · intro ys hJ
    exact hfin h' hk ys (by simpa using hJ)
  · intro b hb
    have hb' : b = s.heap.objs.size + 1 ∨ b = s.heap.objs.size ∨ b = l := by simpa using hb
    show b < h'.objs.size
    rw [hsz']
    rcases hb' with rfl | rfl | rfl
    · exact Nat.lt_succ_self _
    · exact Nat.lt_succ_of_lt (Nat.lt_succ_self _)
    · exact Nat.lt_of_lt_of_le hlt (Nat.le_add_right _ _)
  · intro b hb
    have hb' : b = s.heap.objs.size + 1 ∨ b = s.heap.objs.size := by simpa using hb
    rcases hb' with rfl | rfl
    · exact fresh _ (Nat.le_add_right _ _)
    · exact fresh _ (Nat.le_refl _)
  · rintro s' Q E ⟨⟨old, he⟩, _⟩ hq
    exact wpAny_pyIter_enum he hq
end
end Mine
end
section
open PySem PySem.W PyProof.Rows PySem.Calls PySem.Spec PyProof.V PyProof.Rows.LCg
set_option maxRecDepth 100000
namespace Mine
section
variable {prog : Program} {w : World} {A : Around} {E : Value → Shared → Prop} {s : Shared}
theorem Keeps.refl {s : Shared} : Keeps s s := ⟨s.heap, s.toks, rfl, fun _ _ e => e⟩
theorem Assign_ListComp_KF {h₀ : Heap} {L : Addr} {env : Env} {m₀ : Str → Option Value} {elt iter : PySem.Expr} {a b y : Str} {pa pb tp py : Pos} {kk : Nat} {scope : Scope} {cl : List (Str × Addr)} {pos spos : Pos} {Q : Flow → Shared → Prop} (_F : Fr h₀ L s.heap m₀) (hh : A.handled = none) (hLe : env.locals = L)
    (hsw : swapsWith (.ListComp elt [⟨.Tuple [.Name a pa, .Name b pb] kk tp, iter, [], 0⟩] scope pos) (some (.Name y py)) spos.line env = pure true)
    (hclos : closureFor scope env = pure cl) (hcell : ∀ y ∈ scope.names, y.2 ≠ .cell) (hkind : scope.kind = .function)
    (hnames : ∀ y ∈ scope.names, y.2 = .local → scope.names.lookup y.1 = some .local) (hxa : scope.names.lookup a = some .local) (hxb : scope.names.lookup b = some .local) (hab : ¬ a = b)
    (hy : env.kindOf y = some .local) (hp : (env.scope.kind == .class || (env.scope.kind == .module && env.locals != env.globals)) = false)
    (h : wpAny (model prog w) A (eval iter env) (KSrc prog w A h₀ L env elt a b pa pb tp kk scope cl (fun m news s₁ ys => ∀ D h tk, Fr h₀ L h (fun z => if z = y then some (.ref D) else m z) → News h₀ L h ((D, lst ys) :: news) → (∀ p ∈ news, p.1 < D) → Q .next { s₁ with heap := h, toks := tk }) E) E s)
    (hs : ∀ x, foldedSetIterable iter env x = pure x := by intro _; rfl) :
    wpAny (model prog w) A (exec (.Assign [.Name y py] (.ListComp elt [⟨.Tuple [.Name a pa, .Name b pb] kk tp, iter, [], 0⟩] scope pos) spos) env) Q E s := Assign_ListComp_K hh hLe hsw hclos hcell hkind hnames hxa hxb hab hy hp h hs
/-- seed + sum(script[k::5]), in a comprehension -/
theorem el_sum {env : Env} {seed sum k script : Str} {p1 p2 p3 p4 p5 p6 p7 p8 p9 : Pos} {k5 : Nat} {m₂ : Str → Option Value} {c x : Int} {t u : Tok} {ca ax : Addr} {vs : List Value} {ns : List Int}
    (hh : A.handled = none) (hk : env.scope.kind = .function) (hn : s.heap.Ns env.locals m₂) (h1 : env.kindOf seed = some .local) (v1 : m₂ seed = some (.int c t)) (h2 : env.kindOf k = some .local) (v2 : m₂ k = some (.int x u))
    (h3 : env.kindOf script = some .cell) (hc : env.cells.lookup script = some ca) (hcv : s.heap.IsCell ca (some (.ref ax))) (hl : s.heap.IsList ax vs.toArray) (hi : IntsAre vs ns) (hz : vs.length ≤ 1000)
    (hsum : ∀ (s' : Shared) (Q : Value → Shared → Prop) (E' : Value → Shared → Prop), Keeps s s' → Q (.builtin "sum") s' → wpAny (model prog w) A (eval (.Name sum p3) env) Q E' s')
    (d1 : (seed == ("__debug__" : Str)) = false) (d2 : (k == ("__debug__" : Str)) = false) (d3 : (script == ("__debug__" : Str)) = false) :
    wpAny (model prog w) A (eval (.BinOp (.Name seed p1) .Add (.Call (.Name sum p3) [.Subscript (.Name script p4) (.Slice (some (.Name k p5)) none (some (.Constant (.int 5) k5 p6)) p7) p8] [] p9) p2) env) (fun z s₃ => (∃ n t, z = .int n t) ∧ Keeps s s₃) E s := by
  refine wpAny_BinOp (wpAny_Name (wpAny_loadName_local hk h1 hn v1 ?_) d1)
  refine Call_Name1 (hsum s _ _ Keeps.refl ?_)
  refine PySem.callWith_builtin1 (Subscript_ (wpAny_Name (wpAny_loadName_cell hk h3 hc hcv ?_) d3))
  refine PySem.wpAny_Slice ?_
  rw [evalPart_some, evalPart_none, evalPart_some]
  refine wpAny_Name (wpAny_loadName_local hk h2 hn v2 (wpAny_pure (wpAny_Constant_int ?_))) d2
  have hl2 : (s.heap.push { cls := .type "slice", data := .fields #[.int x u, .none, .int 5 s.toks] }).IsList ax vs.toArray := hl.push _
  refine subscriptTail_ops (s := { s with heap := s.heap.push { cls := .type "slice", data := .fields #[.int x u, .none, .int 5 s.toks] }, toks := s.toks + 1 }) (Heap.IsList.typeIs hl2) list_getitem_lookup
    (wpAny_getItem_list_slice (s := { s with heap := s.heap.push { cls := .type "slice", data := .fields #[.int x u, .none, .int 5 s.toks] }, toks := s.toks + 1 }) (lo := some x) (hi := none) (st := some 5) hl2 (Heap.IsSliceOf.new ..) (.int _ _) .none (.int _ _) (by decide) ?_ (by rw [sizeLine_eq]; simp; omega)) (by with_unfolding_all rfl) (fun r => by with_unfolding_all rfl)
  have hp := hi.pick (some x) none (some 5)
  obtain ⟨xs, hxs⟩ := hp.allInts.items
  rw [Array.toArray_toList] at hxs
  have hnew := Heap.get?_push_size (s.heap.push { cls := .type "slice", data := .fields #[.int x u, .none, .int 5 s.toks] }) (o := { cls := .type "list", data := .seq (slicePick vs.toArray (some x) none (some 5)) }) rfl
  refine sum_intListG hh ⟨_, hnew, rfl, _, by rw [hxs]⟩ fun h' tk t' hk' => PySem.P.add_int ⟨⟨_, _, rfl⟩, h', tk + 1, rfl, fun b o e => hk' b o (Heap.get?_push_of_some _ (Heap.get?_push_of_some _ e))⟩
end
end Mine
end
section
open PySem PySem.W PyProof.Rows PySem.Calls PySem.Spec PyProof.V
set_option maxRecDepth 100000
set_option maxHeartbeats 1000000
namespace Mine
local macro_rules | `(tactic| walk_at "my.pad0") => `(tactic| skip)
local macro_rules | `(tactic| walk_at $s:str) => `(tactic| k_extra $s)
local macro_rules | `(tactic| k_mem) => `(tactic| assumption)
local macro_rules | `(tactic| k_room) => `(tactic| ktr_room)
abbrev Ls (l : List Nat) : Str := ⟨l.toArray⟩
def wc : Nat → List Nat
  | 0 => [] | 1 => [101] | 2 => [102] | 3 => [101, 102] | _ => [102, 101]
theorem wS_wc {i : Nat} (hi : i < 5) : wS i = Ls (wc i) := by
  have : ∀ i < 5, wS i = Ls (wc i) := by decide +kernel
  exact this i hi
abbrev subs : List (List Nat) := [[], [101], [102], [101, 102], [102, 101]]
theorem wc_mem {i : Nat} (hi : i < 5) : wc i ∈ subs := by
  have : ∀ i < 5, wc i ∈ subs := by decide +kernel
  exact this i hi
def partStep (l : List Nat) (k : Nat) : List Nat := match l with
  | [] => []
  | c :: r => if c = k then r else c :: r
def partP (l : List Nat) (ww : List Nat) : List Nat := ww.foldl partStep l
theorem sub_facts : ∀ l ∈ subs, l.tail ∈ subs ∧ (Ls l == Str.ofString "") = l.isEmpty ∧ (l ≠ [] → Txt.item (Ls l) 0 = Ls [l.headD 0] ∧ Txt.slice (Ls l) (some 1) none = Ls l.tail) := by decide +kernel
section
variable {prog : Program} {w : World} {A : Around} {E : Value → Shared → Prop} {s : Shared} {value slice : PySem.Expr} {t u : Tok} {l : List Nat} {Q : Value → Shared → Prop}
theorem part_ne (hl : l ∈ subs) (b : Bool) (hb : l.isEmpty = b) (h : Q (.bool !b) s) : wpAny (model prog w) A (compareOp .NotEq (.str (Ls l) t) (.str (Str.ofString "") u)) Q E s := by
  refine PyProof.Rows.ne_str ?_
  have := (sub_facts l hl).2.1
  unfold bne
  rw [this, hb]; exact h
theorem part_eq (hl : l ∈ subs) (h : Q (.bool l.isEmpty) s) : wpAny (model prog w) A (compareOp .Eq (.str (Ls l) t) (.str (Str.ofString "") u)) Q E s := by
  refine PyProof.Rows.eq_str ?_
  rw [(sub_facts l hl).2.1]; exact h
theorem part_one {c k : Nat} (b : Bool) (hb : decide (c = k) = b) (h : Q (.bool b) s) : wpAny (model prog w) A (compareOp .Eq (.str (Ls [c]) t) (.str ⟨#[k]⟩ u)) Q E s := by
  refine PyProof.Rows.eq_str ?_
  have : (Ls [c] == (⟨#[k]⟩ : Str)) = decide (c = k) := sg_eq c k
  rw [this, hb]; exact h
theorem part_item {c : Nat} {r : List Nat} (hl : c :: r ∈ subs) (h : ∀ t' tk, Q (.str (Ls [c]) t') { s with toks := tk })
    (hs : subscripted slice false (.str (Ls (c :: r)) t) (.int 0 u) = operate [.str (Ls (c :: r)) t, .int 0 u] (getItem (.str (Ls (c :: r)) t) (.int 0 u)) := by with_unfolding_all rfl)
    (ht : ∀ r', letTemporaryGo value (.str (Ls (c :: r)) t) r' = pure () := by intro _; with_unfolding_all rfl) :
    wpAny (model prog w) A (subscriptTail value slice (.str (Ls (c :: r)) t) (.int 0 u)) Q E s := by
  have hx : Txt.item (Ls (c :: r)) 0 = Ls [c] := ((sub_facts _ hl).2.2 (by simp)).1
  have hlen : (Ls (c :: r)).length = r.length + 1 := rfl
  refine item_str (by decide) (by rw [hlen]; omega) (by rw [hlen]; omega) (fun _ => ?_) hs ht
  rw [hx]; exact h _ _
theorem part_slice {h₀ : Heap} {L : Addr} {m : Str → Option Value} {news : List (Addr × Obj)} {c : Nat} {r : List Nat} {h₁ : Heap} {ui : Tok} (hl : c :: r ∈ subs) (hF : Fr h₀ L h₁ m) (hN : News h₀ L h₁ news) (h : ∀ h' t' k, Fr h₀ L h' m → News h₀ L h' news → Q (.str (Ls r) t') { s with heap := h', toks := k })
    (hs : subscripted slice false (.str (Ls (c :: r)) t) (.ref h₁.objs.size) = operate [.ref h₁.objs.size, .str (Ls (c :: r)) t] (getItem (.str (Ls (c :: r)) t) (.ref h₁.objs.size)) := by with_unfolding_all rfl)
    (ht : ∀ r', letTemporaryGo value (.str (Ls (c :: r)) t) r' = pure () := by intro _; with_unfolding_all rfl) :
    wpAny (model prog w) A (subscriptTail value slice (.str (Ls (c :: r)) t) (.ref h₁.objs.size)) Q E { s with heap := h₁.push { cls := .type "slice", data := .fields #[.int 1 ui, .none, .none] } } := by
  have hx : Txt.slice (Ls (c :: r)) (some 1) none = Ls r := ((sub_facts _ hl).2.2 (by simp)).2
  have hz : ∀ l ∈ subs, l.length ≤ 2 := by decide
  refine slice_strN_sn (s := { s with heap := h₁ }) hF hN (fun h' t' k F' N' => ?_) hs ht (by rw [sizeLine_eq]; have := hz _ hl; show (c :: r).length ≤ _; omega)
  rw [hx]; exact h _ _ _ F' N'
end
theorem upd_2 {m m₀ : Str → Option Value} {n1 n2 : Str} {x1 x2 : Option Value} (e1 : m n1 = x1) (e2 : m n2 = x2) (h : ∀ z, z ≠ n1 → z ≠ n2 → m z = m₀ z) :
    m = fun z => if z = n1 then x1 else if z = n2 then x2 else m₀ z := by
  funext z
  by_cases h1 : z = n1
  · subst h1; simp only [if_true]; exact e1
  by_cases h2 : z = n2
  · subst h2; simp only [if_neg h1, if_true]; exact e2
  simp only [if_neg h1, if_neg h2]
  exact h z h1 h2

theorem offI3 {l : List (Addr × Obj)} {i : Addr} {oi : Obj} (h : ∀ p ∈ l, p.1 < i) : ∀ p ∈ l, ∀ q ∈ [(i, oi)], p.1 ≠ q.1 := fun p hp q hq => by rw [List.mem_singleton.mp hq]; exact Nat.ne_of_lt (h p hp)
theorem part_spec {w : World} {loose : List Str} {mean : ExcName → Option Value} {mg mb : Str → Option Value}
  {dp un : Nat} {gd : Option (List Code)} {cn : Str} {cs : Scope} {a : Addr} {ccd : Value} {cl : List (Str × Addr)} {outer : List Env} {A₀ : Around} {base h₀ : Heap} {L : Addr} {m : Str → Option Value} {news : List (Addr × Obj)} {s : Shared} {Q E : Value → Shared → Prop}
  {l0 ww : List Nat} {t u : Tok}
  (B : Below A₀ base outer h₀) (F : Fr h₀ L s.heap m) (X : (frag.heap_1 w.params).In h₀) (N : News h₀ L s.heap news) (T : Top topProg loose mean mg mb h₀) (hk : cs.kind = .function)
  (hdp : dp + 16 < recursionLimit) (hun : un + 100 < cLine) (hl0 : l0 ∈ subs) (hall : ∀ k ∈ ww, k < 128)
  (hret : ∀ h' tk', Fr h₀ L h' m → News h₀ L h' news → Q (.bool (partP l0 ww).isEmpty) { s with heap := h', toks := tk' }) :
  wpAny (model PySem.Challenge.rw_qc0004_01.row.prog w) (ktrTop dp un gd cn cs L a ccd cl outer) (call (.ref 108) [.str (Ls l0) t, .str (Ls ww) u]) Q E s := by
  have hks : (⟨ww.toArray⟩ : Str).cps.toList.map signItm = ww.map signItm := by simp
  w_strict (
    w_top off
    k_with_none
    k_with "execs cons" => (k_here; (rename Fr _ _ _ _ => lF'); (fail_if_success (with_reducible have h9 : Fr _ _ _ m9 := lF')); k_dflt (refine (let m9 : Str → Option Value := _; have F9 : Fr _ _ _ m9 := lF'; ?_)); clear lF')
    k_with "execs cons" => (k_here; (fail_if_success (with_reducible show wpAny _ _ _ Q9 _ _)); k_dflt (refine (let Q9 : Flow → Shared → Prop := _; let E9 : Value → Shared → Prop := _; (show wpAny _ _ (execs _ _) Q9 E9 _ from ?_))))
    k_with "compareOp NotEq str str" => ((k_here; k_dflt (first | (refine part_ne (by assumption) false (by rfl) ?_) | (refine part_ne (by assumption) true (by rfl) ?_))))
    k_with "compareOp Eq str str" => ((k_here; first
          | ((with_reducible show wpAny _ _ (compareOp _ _ (Value.str (PySem.Str.ofString _) _)) _ _ _); k_dflt (refine part_eq (by assumption) ?_))
          | ((with_reducible show wpAny _ _ (compareOp _ _ (Value.str (PySem.Str.mk _) _)) _ _ _); k_dflt (first | (refine part_one true (by assumption) ?_) | (refine part_one false (by assumption) ?_)))))
    k_with "subscriptTail Name Constant str int" => ((k_here; (k_dflt (refine part_item (by assumption) ?_)); intro t' tk'; (try dsimp only)))
    k_with "subscriptTail Name Slice str ref" => ((k_here; (rename Fr _ _ _ _ => lF'); (rename News _ _ _ _ => lN'); k_dflt (refine part_slice (by assumption) lF' lN' ?_); clear lF' lN'; intro h' t' tk' F' N'; (try dsimp only)))
    k_with "exec For Name Name cons nil" => (((rename Fr _ _ _ _ => lF'); (with_unfolding_all (refine' For_turns lF' ?_)); k_whole))
    revert X; k_fill; intro X
    refine wpAny_call ?_
    k_dflt ktr_enter
    k_steps
    rename Fr _ _ _ _ => F2
    rename News _ _ _ _ => N2
    k_dflt (refine iter_asciiTurns (by simpa using hall) rfl F2 N2 ?_)
    intro I l1
    rw [hks]
    refine items_ind (α := Nat) signItm (fun m₀ n₀ r m nw => ∃ (l : List Nat) (t1 : Tok) (v2 : Option Value), m = (fun s => if s = Str.ofString "name" then some (.str (Ls l) t1) else if s = Str.ofString "sign" then v2 else m₀ s) ∧ nw = news ∧ l ∈ subs ∧ r.foldl partStep l = partP l0 ww) ?_ ?_ ?_
    · exact ⟨l0, _, _, upd_2 rfl rfl (fun _ _ _ => rfl), rfl, hl0, rfl⟩
    · rintro k r m1 nw1 v h tk ⟨l, t1, v2, rfl, rfl, hl, hf⟩ hv F3
      obtain ⟨t4, rfl⟩ := hv
      ktu_objs
      cases l with
      | nil =>
        k_steps
        rename Fr _ _ _ _ => F5
        rename News _ _ _ _ => N5
        refine ⟨_, _, _, _, rfl, F5, N5, offI3 l1, trivial, [], _, _, upd_2 rfl rfl (fun z h1 h2 => by repeat first | with_reducible rfl | with_reducible refine (if_neg h1).trans ?_ | with_reducible refine (if_neg h2).trans ?_), rfl, hl, ?_⟩
        exact hf
      | cons c r' =>
        have hl2 := (sub_facts _ hl).1
        cases hB : decide (c = k) with
        | true =>
          k_steps
          rename Fr _ _ _ _ => F5
          rename News _ _ _ _ => N5
          refine ⟨_, _, _, _, rfl, F5, N5, offI3 l1, trivial, r', _, _, upd_2 rfl rfl (fun z h1 h2 => by repeat first | with_reducible rfl | with_reducible refine (if_neg h1).trans ?_ | with_reducible refine (if_neg h2).trans ?_), rfl, hl2, ?_⟩
          rw [List.foldl_cons, show partStep (c :: r') k = r' from if_pos (of_decide_eq_true hB)] at hf; exact hf
        | false =>
          k_steps
          rename Fr _ _ _ _ => F5
          rename News _ _ _ _ => N5
          refine ⟨_, _, _, _, rfl, F5, N5, offI3 l1, trivial, c :: r', _, _, upd_2 rfl rfl (fun z h1 h2 => by repeat first | with_reducible rfl | with_reducible refine (if_neg h1).trans ?_ | with_reducible refine (if_neg h2).trans ?_), rfl, hl, ?_⟩
          rw [List.foldl_cons, show partStep (c :: r') k = c :: r' from if_neg (of_decide_eq_false hB)] at hf; exact hf
    · rintro m1 nw1 h tk ⟨l, t1, v2, rfl, rfl, hl, hf⟩ F3 N3
      have hf : l = partP l0 ww := hf
      dsimp only
      k_steps
      rename Fr h₀ L _ m => F5
      rename News h₀ L _ _ => N5
      rw [← hf] at hret
      exact hret _ _ F5 N5)
end Mine
end
section
open PySem PySem.W PyProof.Rows PySem.Calls PySem.Spec PyProof.V PyProof.Rows.LCg
set_option maxRecDepth 100000
set_option maxHeartbeats 2000000
namespace Mine
local macro_rules | `(tactic| walk_at $s:str) => `(tactic| k_extra $s)
local macro_rules | `(tactic| k_mem) => `(tactic| assumption)
local macro_rules | `(tactic| k_room) => `(tactic| ktr_room)
@[irreducible] def gQ (k : Nat) : Str := if bOf k then Ls [92, k] else Ls [k]
@[irreducible] def gB (k : Nat) : Str := Ls [92, k]
@[irreducible] def jn (l : List Str) : Str := Txt.join (Str.ofString "") l
def wrS (q : Bool) (l : List Nat) : Str := if q then (Str.ofString "\"" ++ jn (l.map gQ)) ++ Str.ofString "\"\t" else jn (l.map gB) ++ Str.ofString "\r"
theorem gQ_len (k : Nat) : (gQ k).length ≤ 2 := by unfold gQ; split <;> exact Nat.le_of_ble_eq_true rfl
theorem gB_len (k : Nat) : (gB k).length ≤ 2 := by unfold gB; exact Nat.le_of_ble_eq_true rfl
theorem sum_len {g : Nat → Str} (hg : ∀ k, (g k).length ≤ 2) : ∀ l : List Nat, ((l.map g).map (·.length)).sum ≤ 2 * l.length
  | [] => Nat.le_refl _
  | k :: r => by
    have := sum_len hg r
    have := hg k
    simp only [List.map_cons, List.sum_cons, List.length_cons]
    omega
theorem jn_len {g : Nat → Str} (hg : ∀ k, (g k).length ≤ 2) {l : List Nat} (hl : l.length ≤ 100) : (jn (l.map g)).length ≤ 200 := by
  have h := sum_len hg l
  have := StrLaws.join_length_le (Str.ofString "") (l.map g)
  have e : (Str.ofString "").length = 0 := rfl
  rw [e] at this
  unfold jn
  unfold Txt.join
  rw [StrLaws.glued_eq_join]
  omega
theorem strs_of : ∀ {ys : List Value} {zs : List Str}, StrsAre ys zs → ∃ l : List (Str × Tok), ys = strValues l ∧ l.map (·.1) = zs
  | _, _, .nil => ⟨[], rfl, rfl⟩
  | _, _, .cons y t h => by
    obtain ⟨l, h1, h2⟩ := strs_of h
    exact ⟨(y, t) :: l, by rw [h1]; rfl, by rw [← h2]; rfl⟩
theorem strs_append : ∀ {ys ys' : List Value} {zs zs' : List Str}, StrsAre ys zs → StrsAre ys' zs' → StrsAre (ys ++ ys') (zs ++ zs')
  | _, _, _, _, .nil, h => h
  | _, _, _, _, .cons y t h, h' => .cons y t (strs_append h h')
section
variable {prog : Program} {w : World} {A : Around} {E : Value → Shared → Prop} {s : Shared} {h₀ : Heap} {L a : Addr} {m : Str → Option Value} {cn : Str} {cs : Scope} {ccd : Value} {cl : List (Str × Addr)} {news : List (Addr × Obj)} {Q : Value → Shared → Prop}
theorem jn_call {g : Nat → Str} (hg : ∀ k, (g k).length ≤ 2) {l : List Nat} {D : Addr} {n : Nat} {t : Tok} {ys : List Value} (N : News h₀ L s.heap news) (hm : (D, listOf ys.toArray n) ∈ news) (hs : StrsAre ys (l.map g)) (hl : l.length ≤ 100) (h : ∀ t' tk, Q (.str (jn (l.map g)) t') { s with toks := tk }) :
    wpAny (model prog w) A (call (.builtin "str.join") [.str (Str.ofString "") t, .ref D]) Q E s := by
  obtain ⟨q, rfl, h2⟩ := strs_of hs
  unfold jn at h
  refine SC.join (texts := l.map g) (News.isList N hm) h2 (joinOk_of ?_) h
  have := sum_len hg l
  have e : (Str.ofString "").length = 0 := rfl
  rw [e]; omega

/-- a comprehension over the signs of a local text, each element a text -/
theorem comp_signs {elt : PySem.Expr} {x y : Str} {px py : Pos} {scope : Scope} {cc : List (Str × Addr)} {pos : Pos} {ks : List Nat} {t : Tok} (g : Nat → Str) (F : Fr h₀ L s.heap m) (N : News h₀ L s.heap news) (hh : A.handled = none) (hy : m y = some (.str (Ls ks) t)) (hall : ∀ k ∈ ks, k < 128) (hlen : ks.length ≤ 100)
    (hclos : closureFor scope (envX cn cs L a ccd cl) = pure cc) (hcell : ∀ y ∈ scope.names, y.2 ≠ .cell) (hkind : scope.kind = .function)
    (hnames : ∀ y ∈ scope.names, y.2 = .local → scope.names.lookup y.1 = some .local) (hx : scope.names.lookup x = some .local)
    (hel : ∀ k ∈ ks, ∀ C m₂ (s₂ : Shared) t (E' : Value → Shared → Prop), s₂.heap.Ns C m₂ → m₂ x = some (.str ⟨#[k]⟩ t) → wpAny (model prog w) A (eval elt (compEnvC scope cc C (envX cn cs L a ccd cl))) (fun y s₃ => ∃ t' tk', y = .str (g k) t' ∧ s₃ = { s₂ with toks := tk' }) E' s₂)
    (hQ : ∀ D ys n h' tk, Fr h₀ L h' m → News h₀ L h' ((D, listOf ys.toArray n) :: news) → Off1 D news → StrsAre ys (ks.map g) → Q (.ref D) { s with heap := h', toks := tk })
    (hk : cs.kind = .function := by rfl) (hyk : (envX cn cs L a ccd cl).kindOf y = some .local := by rfl) (hd : (y == ("__debug__" : Str)) = false := by decide) :
    wpAny (model prog w) A (eval (.ListComp elt [⟨.Name x px, .Name y py, [], 0⟩] scope pos) (envX cn cs L a ccd cl)) Q E s := by
  refine ListComp_S F hclos hcell hkind hnames hx (nameX_L F hy ⟨Ls ks, t, news, rfl, hh, F, N, ?_, ?_, ?_⟩ hk hyk hd)
  · simpa using hall
  · rw [sizeLine_eq]; show ks.toArray.size ≤ _; simp; omega
  · rintro s₂ ⟨hp, rfl⟩
    refine comp_ind (α := Nat) ks (fun k v => ∃ u, v = .str ⟨#[k]⟩ u) (by simp) ?_ (fun r ys nw => nw = news ∧ (∀ k ∈ r, k ∈ ks) ∧ ∃ d, StrsAre ys (d.map g) ∧ d ++ r = ks) ?_ ?_ ⟨rfl, fun _ h => h, [], .nil, rfl⟩
    · rintro i v ⟨c, u, hc, rfl⟩
      exact ⟨c, by simpa using hc, u, rfl⟩
    · rintro k r ys nw v I oI C oC D m₂ h tk E' ⟨rfl, hr, d, hd1, hd2⟩ ⟨u, rfl⟩ hC hx2 F3 N3 off ne
      refine wpAny_mono (hel k (hr k (.head _)) C m₂ { s with heap := h, toks := tk } u E' (hC.ns (N3 _ (.tail _ (.head _))).1) hx2) (fun y s₃ hy3 => ?_) fun _ _ e => e
      obtain ⟨t', tk', rfl, rfl⟩ := hy3
      refine CompEnd.same (s := s) F3 N3 off trivial ⟨rfl, fun k hk => hr k (.tail _ hk), d ++ [k], ?_, by rw [List.append_assoc]; exact hd2⟩
      rw [List.map_append]
      exact strs_append hd1 (.cons _ _ .nil)
    · rintro ys nw ⟨rfl, _, d, hd1, hd2⟩ D h tk F3 N3 o1
      rw [List.append_nil] at hd2
      subst hd2
      exact hQ D ys _ h tk F3 N3 o1 hd1
theorem el_bare {env : Env} {x : Str} {k : Nat} {t : Tok} {p q r : Pos} {kk : Nat} {m₂ : Str → Option Value} (hk : env.scope.kind = .function) (hx : env.kindOf x = some .local) (hn : s.heap.Ns env.locals m₂) (hv : m₂ x = some (.str ⟨#[k]⟩ t)) (hd : (x == ("__debug__" : Str)) = false := by decide) :
    wpAny (model prog w) A (eval (.BinOp (.Constant (.str (Str.ofString "\\")) kk r) .Add (.Name x p) q) env) (fun y s₃ => ∃ t' tk', y = .str (Ls [92, k]) t' ∧ s₃ = { s with toks := tk' }) E s := by
  refine wpAny_BinOp (wpAny_Constant_str (wpAny_Name (wpAny_loadName_local hk hx hn hv ?_) hd))
  refine PyProof.Rows.add_str (fun t' tk => ⟨t', tk, ?_, rfl⟩) (by rw [sizeLine_eq]; show 1 + 1 ≤ _; decide)
  rw [str_bs]; rfl
theorem el_quoted {env : Env} {x : Str} {k : Nat} {t : Tok} {p q r p1 p2 p3 p4 p6 : Pos} {kk k1 : Nat} {m₂ : Str → Option Value} (hk4 : k ∈ [34, 92, 32, 10]) (hk : env.scope.kind = .function) (hx : env.kindOf x = some .local) (hn : s.heap.Ns env.locals m₂) (hv : m₂ x = some (.str ⟨#[k]⟩ t)) (hd : (x == ("__debug__" : Str)) = false := by decide) :
    wpAny (model prog w) A (eval (.IfExp (.Compare (.Name x p1) [.In] [.Constant (.str (Str.ofString "\"\\")) k1 p2] p3) (.BinOp (.Constant (.str (Str.ofString "\\")) kk r) .Add (.Name x p) q) (.Name x p4) p6) env) (fun y s₃ => ∃ t' tk', y = .str (gQ k) t' ∧ s₃ = { s with toks := tk' }) E s := by
  refine wpAny_IfExp (wpAny_isTrue_Compare1 (wpAny_Name (wpAny_loadName_local hk hx hn hv (wpAny_Constant_str (in_str (wpAny_truthy_bool ?_)))) hd))
  have hb := inB_hook hk4
  unfold inB at hb
  rw [hb]
  unfold gQ
  cases bOf k with
  | true =>
    rw [if_pos rfl, if_pos rfl]
    refine wpAny_mono (el_bare (s := { s with toks := s.toks + 1 }) hk hx hn hv hd) (fun y s₃ h => ?_) fun _ _ e => e
    obtain ⟨t', tk', h1, h2⟩ := h
    exact ⟨t', tk', h1, h2⟩
  | false =>
    rw [if_neg (by decide), if_neg (by decide)]
    exact wpAny_Name (wpAny_loadName_local hk hx hn hv ⟨_, _, rfl, rfl⟩) hd
end
theorem mem4 {ks : List Nat} (h : ∀ k ∈ ks, k ∈ [34, 92, 32, 10]) {k : Nat} (hk : k ∈ ks) : k ∈ [34, 92, 32, 10] := h k hk
theorem el_bareB {prog : Program} {w : World} {A : Around} {E : Value → Shared → Prop} {s : Shared} {env : Env} {x : Str} {k : Nat} {t : Tok} {p q r : Pos} {kk : Nat} {m₂ : Str → Option Value} (hk : env.scope.kind = .function) (hx : env.kindOf x = some .local) (hn : s.heap.Ns env.locals m₂) (hv : m₂ x = some (.str ⟨#[k]⟩ t)) (hd : (x == ("__debug__" : Str)) = false := by decide) :
    wpAny (model prog w) A (eval (.BinOp (.Constant (.str (Str.ofString "\\")) kk r) .Add (.Name x p) q) env) (fun y s₃ => ∃ t' tk', y = .str (gB k) t' ∧ s₃ = { s with toks := tk' }) E s := by
  unfold gB; exact el_bare hk hx hn hv hd
theorem wri_spec {w : World} {loose : List Str} {mean : ExcName → Option Value} {mg mb : Str → Option Value}
  {dp un : Nat} {gd : Option (List Code)} {cn : Str} {cs : Scope} {a : Addr} {ccd : Value} {cl : List (Str × Addr)} {outer : List Env} {A₀ : Around} {base h₀ : Heap} {L : Addr} {m : Str → Option Value} {news : List (Addr × Obj)} {s : Shared} {Q E : Value → Shared → Prop}
  {kk : List Nat} {q : Bool} {t : Tok}
  (B : Below A₀ base outer h₀) (F : Fr h₀ L s.heap m) (X : (frag.heap_1 w.params).In h₀) (N : News h₀ L s.heap news) (T : Top topProg loose mean mg mb h₀) (hk : cs.kind = .function)
  (hdp : dp + 16 < recursionLimit) (hun : un + 100 < cLine) (h4 : ∀ k ∈ kk, k ∈ [34, 92, 32, 10]) (hlen : kk.length ≤ 100)
  (hret : ∀ t h' tk', Fr h₀ L h' m → News h₀ L h' news → Q (.str (wrS q kk) t) { s with heap := h', toks := tk' }) :
  wpAny (model PySem.Challenge.rw_qc0004_01.row.prog w) (ktrTop dp un gd cn cs L a ccd cl outer) (call (.ref 89) [.str (Ls kk) t, .bool q]) Q E s := by
  have hall : ∀ k ∈ kk, k < 128 := fun k hk => by have := h4 k hk; simp at this; omega
  have hz1 := jn_len gQ_len hlen
  have hz2 := jn_len gB_len hlen
  w_strict (
    w_top off
    k_with_none
    k_with "execs cons" => (k_here; (rename Fr _ _ _ _ => lF'); (fail_if_success (with_reducible have h9 : Fr _ _ _ m9 := lF')); k_dflt (refine (let m9 : Str → Option Value := _; have F9 : Fr _ _ _ m9 := lF'; ?_)); clear lF')
    k_with "execs cons" => (k_here; (fail_if_success (with_reducible show wpAny _ _ _ Q9 _ _)); k_dflt (refine (let Q9 : Flow → Shared → Prop := _; let E9 : Value → Shared → Prop := _; (show wpAny _ _ (execs _ _) Q9 E9 _ from ?_))))
    k_with "my.cq" => (((rename Fr _ _ _ _ => lF'); (rename News _ _ _ _ => lN'); (k_dflt (refine comp_signs gQ lF' lN' rfl (by rfl) (by assumption) (by assumption) (by with_unfolding_all rfl) (by decide) (by rfl) (by decide) (by rfl) (fun k hk C m₂ s₂ t E' hn hv => el_quoted (mem4 (by assumption) hk) (env := compEnvC _ _ C _) (by rfl) (by rfl) hn hv) ?_)); clear lF' lN'; intro D' ys' n' h' tk' F' N' o1' hs'; (try dsimp only)))
    k_with "my.cb" => (((rename Fr _ _ _ _ => lF'); (rename News _ _ _ _ => lN'); (k_dflt (refine comp_signs gB lF' lN' rfl (by rfl) (by assumption) (by assumption) (by with_unfolding_all rfl) (by decide) (by rfl) (by decide) (by rfl) (fun k hk C m₂ s₂ t E' hn hv => el_bareB (env := compEnvC _ _ C _) (by rfl) (by rfl) hn hv) ?_)); clear lF' lN'; intro D' ys' n' h' tk' F' N' o1' hs'; (try dsimp only)))
    k_with "eval ListComp" => ((k_here; first | walk_at "my.cq" | walk_at "my.cb"))
    k_with "call builtin:str.join" => ((k_here; (rename News _ _ _ _ => lN'); (first | (k_dflt (refine jn_call gQ_len lN' (by exact List.Mem.head _) (by assumption) (by assumption) ?_)) | (k_dflt (refine jn_call gB_len lN' (by exact List.Mem.head _) (by assumption) (by assumption) ?_))); intro t' tk'; (try dsimp only)))
    revert X; k_fill; intro X
    refine wpAny_call ?_
    k_dflt ktr_enter
    cases q with
    | true =>
      k_steps
      exact hret _ _ _ (by k_asm) (cb_drop (by assumption) fun p hp => .tail _ hp)
    | false =>
      k_steps
      exact hret _ _ _ (by k_asm) (cb_drop (by assumption) fun p hp => .tail _ hp))
end Mine
end
section
open PySem PySem.W PyProof.Rows PySem.Calls PySem.Spec PyProof.V PyProof.Rows.LCg
set_option maxRecDepth 100000
namespace Mine
def cod (n : Int) : Nat := if n.fmod 4 = 0 then 34 else if n.fmod 4 = 1 then 92 else if n.fmod 4 = 2 then 32 else 10
theorem cod_mem (n : Int) : cod n ∈ [34, 92, 32, 10] := by
  unfold cod
  split
  · simp
  split
  · simp
  split <;> simp
theorem cod_item {n : Int} (h0 : 0 ≤ n.fmod 4) (h4 : n.fmod 4 < 4) : Txt.item (Str.ofString "\"\\ \n") (n.fmod 4) = Ls [cod n] := by
  unfold cod
  have h : n.fmod 4 = 0 ∨ n.fmod 4 = 1 ∨ n.fmod 4 = 2 ∨ n.fmod 4 = 3 := by omega
  rcases h with h | h | h | h <;> rw [h] <;> decide +kernel
section
variable {prog : Program} {w : World} {A : Around} {E : Value → Shared → Prop} {s : Shared} {h₀ : Heap} {L : Addr} {m : Str → Option Value} {env : Env} {news : List (Addr × Obj)}
theorem el_draw {x : Str} {n : Int} {t : Tok} {p1 p2 p3 p4 p5 : Pos} {k1 k2 : Nat} {m₂ : Str → Option Value} (hk : env.scope.kind = .function) (hx : env.kindOf x = some .local) (hn : s.heap.Ns env.locals m₂) (hv : m₂ x = some (.int n t)) (hd : (x == ("__debug__" : Str)) = false := by decide) :
    wpAny (model prog w) A (eval (.Subscript (.Constant (.str (Str.ofString "\"\\ \n")) k1 p1) (.BinOp (.Name x p2) .Mod (.Constant (.int 4) k2 p3) p4) p5) env) (fun y s₃ => ∃ t' tk', y = .str (Ls [cod n]) t' ∧ s₃ = { s with toks := tk' }) E s := by
  have h0 : 0 ≤ n.fmod 4 := by rw [Int.fmod_eq_emod_of_nonneg n (by decide : (0:Int) ≤ 4)]; omega
  have h4 : n.fmod 4 < 4 := by rw [Int.fmod_eq_emod_of_nonneg n (by decide : (0:Int) ≤ 4)]; omega
  refine Subscript_ (wpAny_Constant_str (wpAny_BinOp (wpAny_Name (wpAny_loadName_local hk hx hn hv (wpAny_Constant_int (PyProof.Rows.mod_int' (by decide) ?_))) hd)))
  refine item_str (fitsSsize_of (N := 9223372036854775808) (by omega) (by omega) (Int.le_refl _)) (by have : (Str.ofString "\"\\ \n").length = 4 := rfl; rw [this]; omega) (by have : (Str.ofString "\"\\ \n").length = 4 := rfl; rw [this]; omega) (fun _ => ?_)
  rw [cod_item h0 h4]
  exact ⟨_, _, rfl, rfl⟩
theorem comp_draw {elt iter : PySem.Expr} {x : Str} {px : Pos} {scope : Scope} {cc : List (Str × Addr)} {pos : Pos} {Q : Value → Shared → Prop} {l : Addr} {ys : List Value} {n : Nat} {ns : List Int} (g : Int → Str) (F : Fr h₀ L s.heap m) (N : News h₀ L s.heap news) (hh : A.handled = none) (hm : (l, listOf ys.toArray n) ∈ news) (hi : IntsAre ys ns) (hlen : ns.length ≤ 100)
    (hclos : closureFor scope env = pure cc) (hcell : ∀ y ∈ scope.names, y.2 ≠ .cell) (hkind : scope.kind = .function)
    (hnames : ∀ y ∈ scope.names, y.2 = .local → scope.names.lookup y.1 = some .local) (hx : scope.names.lookup x = some .local)
    (hit : ∀ (Q : Value → Shared → Prop) (E' : Value → Shared → Prop), Q (.ref l) s → wpAny (model prog w) A (eval iter env) Q E' s)
    (hel : ∀ k ∈ ns, ∀ C m₂ (s₂ : Shared) t (E' : Value → Shared → Prop), s₂.heap.Ns C m₂ → m₂ x = some (.int k t) → wpAny (model prog w) A (eval elt (compEnvC scope cc C env)) (fun y s₃ => ∃ t' tk', y = .str (g k) t' ∧ s₃ = { s₂ with toks := tk' }) E' s₂)
    (hQ : ∀ D zs c h' tk, Fr h₀ L h' m → News h₀ L h' ((D, listOf zs.toArray c) :: news) → Off1 D news → StrsAre zs (ns.map g) → Q (.ref D) { s with heap := h', toks := tk })
    (hs : ∀ x, foldedSetIterable iter env x = pure x := by intro _; rfl) :
    wpAny (model prog w) A (eval (.ListComp elt [⟨.Name x px, iter, [], 0⟩] scope pos) env) Q E s := by
  have hl := hi.length
  refine LCg.ListComp_U F hclos hcell hkind hnames hx (hit _ _ (LCg.CompSrc.ledger hh F N hm (by rw [sizeLine_eq]; simp; omega) fun g' => ?_)) hs
  refine comp_ind (α := Int) ns (fun k v => ∃ u, v = .int k u) (by simp; omega) ?_ (fun r zs nw => nw = news ∧ (∀ k ∈ r, k ∈ ns) ∧ ∃ d, StrsAre zs (d.map g) ∧ d ++ r = ns) ?_ ?_ ⟨rfl, fun _ h => h, [], .nil, rfl⟩
  · intro i v hv
    have hv' : ys[i]? = some v := by simpa using hv
    obtain ⟨k, t, rfl, hk⟩ := hi.at i v hv'
    exact ⟨k, hk, t, rfl⟩
  · rintro k r zs nw v I oI C oC D m₂ h tk E' ⟨rfl, hr, d, hd1, hd2⟩ ⟨u, rfl⟩ hC hx2 F3 N3 off ne
    refine wpAny_mono (hel k (hr k (.head _)) C m₂ { s with heap := h, toks := tk } u E' (hC.ns (N3 _ (.tail _ (.head _))).1) hx2) (fun y s₃ hy3 => ?_) fun _ _ e => e
    obtain ⟨t', tk', rfl, rfl⟩ := hy3
    refine CompEnd.same (s := { s with heap := g' }) F3 N3 off (.inr ⟨_, hm, rfl, _, rfl⟩) ⟨rfl, fun k hk => hr k (.tail _ hk), d ++ [k], ?_, by rw [List.append_assoc]; exact hd2⟩
    rw [List.map_append]
    exact strs_append hd1 (.cons _ _ .nil)
  · rintro zs nw ⟨rfl, _, d, hd1, hd2⟩ D h tk F3 N3 o1
    rw [List.append_nil] at hd2
    subst hd2
    exact hQ D zs _ h tk F3 N3 o1 hd1
end
theorem jn_ones (a b c d e : Nat) : jn ([a, b, c, d, e].map fun k => Ls [k]) = Ls [a, b, c, d, e] := by unfold jn; rfl
theorem ones_len (k : Nat) : (Ls [k]).length ≤ 2 := Nat.le_of_ble_eq_true rfl
theorem wrS_len {q : Bool} {l : List Nat} (hl : l.length = 5) : (wrS q l).length ≤ 64 := by
  have h1 : ∀ {g : Nat → Str}, (∀ k, (g k).length ≤ 2) → (jn (l.map g)).length ≤ 10 := by
    intro g hg
    have h := sum_len hg l
    have := StrLaws.join_length_le (Str.ofString "") (l.map g)
    have e : (Str.ofString "").length = 0 := rfl
    rw [e] at this
    unfold jn Txt.join
    rw [StrLaws.glued_eq_join]
    omega
  have app : ∀ x y : Str, (x ++ y).length = x.length + y.length := fun x y => by show (x.cps ++ y.cps).size = x.cps.size + y.cps.size; simp
  unfold wrS
  have a1 := h1 gQ_len
  have a2 := h1 gB_len
  have b1 : (Str.ofString "\"").length = 1 := rfl
  have b2 : (Str.ofString "\"\t").length = 2 := rfl
  have b3 : (Str.ofString "\r").length = 1 := rfl
  split
  · rw [app, app]; omega
  · rw [app]; omega
end Mine
end
section
open PySem PySem.W PyProof.Rows PySem.Calls PySem.Spec PyProof.V
set_option maxRecDepth 100000
set_option maxHeartbeats 4000000
namespace Mine
local macro_rules | `(tactic| walk_at "my.pad0") => `(tactic| skip)
local macro_rules | `(tactic| walk_at $s:str) => `(tactic| k_extra $s)
local macro_rules | `(tactic| k_mem) => `(tactic| assumption)
local macro_rules | `(tactic| k_room) => `(tactic| ktr_room)
local macro_rules | `(tactic| k_all) => `(tactic| first | assumption | (intro p9 hp9; have h9 := NB.at (by assumption) hp9; (refine neN ?_); (try dsimp only); omega))
theorem tok_read {w : World} {loose : List Str} {mean : ExcName → Option Value} {mg mb : Str → Option Value}
  (dp un : Nat) (gd : Option (List Code)) (cn : Str) (cs : Scope) (a : Addr) (ccd : Value) (cl : List (Str × Addr)) (outer : List Env) (A₀ : Around) (base h₀ : Heap) (L : Addr) (m : Str → Option Value) (news : List (Addr × Obj)) (s : Shared) (Q E : Value → Shared → Prop)
  (pb lx dd dx rf cc st D cell : Nat) (fdr fds : FuncData) (oc ocell : Obj) (ys : List Value) (ks : List Nat) (c n0 : Nat) (ln : Int) (u t1 t2 t3 t4 t5 t6 : Tok)
  (B : Below A₀ base outer h₀) (F : Fr h₀ L s.heap m) (X : (frag.heap_1 w.params).In h₀) (N : News h₀ L s.heap ((D, listOf ys.toArray c) :: (dd, lexDict w ln st pb t1 t2 t3 t4 t5 t6) :: news)) (hC : CodeHd h₀ 83 79) (T : Top topProg loose mean mg mb h₀) (hk : cs.kind = .function)
  (hdp : dp + 16 < recursionLimit) (hun : un + 100 < cLine)
  (hpb : (pb, listOf #[] n0) ∈ news) (S : LexS w news lx dd dx rf cc st D cell u fdr fds oc ocell) (hlx : (lx, instObj 66 dd) ∈ news)
  (hys : SgAre ys ks) (hlen : ys.length ≤ 100000) (hks : ks.length ≤ 100) (hok : okSigns ks) (tok : Str) (ksf : List Nat) (lnf : Int) (hres : tokOf ks ln = some (tok, ksf, lnf))
  (hret : ∀ t' ys' c' h' tk' t2', Fr h₀ L h' m → SgAre ys' ksf → ys'.length ≤ 100000 → News h₀ L h' ((D, listOf ys'.toArray c') :: (dd, lexDict w lnf st pb t1 t2' t3 t4 t5 t6) :: news) → Q (.str tok t') { s with heap := h', toks := tk' }) :
  wpAny (model PySem.Challenge.rw_qc0004_01.row.prog w) (ktrTop dp un gd cn cs L a ccd cl outer) (call (.ref 56) [.ref lx]) Q E s := by
  w_strict (
    w_top off
    k_with_none
    k_with "execs cons" => (k_here; (rename Fr _ _ _ _ => lF'); (fail_if_success (with_reducible have h9 : Fr _ _ _ m9 := lF')); k_dflt (refine (let m9 : Str → Option Value := _; have F9 : Fr _ _ _ m9 := lF'; ?_)); clear lF')
    k_with "execs cons" => (k_here; (fail_if_success (with_reducible show wpAny _ _ _ Q9 _ _)); k_dflt (refine (let Q9 : Flow → Shared → Prop := _; let E9 : Value → Shared → Prop := _; (show wpAny _ _ (execs _ _) Q9 E9 _ from ?_))))
    k_with "truthy ref" => ((k_here; (with_reducible show wpAny _ _ (truthy (Value.ref _)) _ _ _); k_dflt (first | (refine truthy_cons (by k_asm) (by k_mem) (by assumption) ?_) | (refine truthy_nil (by k_asm) (by k_mem) ?_)); intro tk9))
    k_with "call builtin:iter" => ((k_here; (with_reducible show wpAny _ _ (call (Value.builtin "iter") [Value.ref _, Value.str _ _]) _ _ _); k_dflt (refine iter2 (by k_asm) (by k_asm) (by k_mem) ?_; k_whole); intro it' h' F' N' l1; (try k_lt l1)))
    k_with "call ref" => ((k_here; k_dflt (show wpAny _ _ (call (Value.ref 49) [Value.ref _]) _ _ _); (rename Fr _ _ _ _ => lF'); (rename News _ _ _ _ => lN'); first | ((rename ((_ : PySem.Str) == PySem.Str.ofString "\\") = true => hb9); exact absurd (bs_of hb9) (by assumption)) | (k_dflt (refine rc_cons (by assumption) lF' (by assumption) lN' (by assumption) (by assumption) rfl (by ktr_room) (by ktr_units) (LexS.cons (by assumption) (neN (by dsimp only; omega)) (neN (by dsimp only; omega))) (by assumption) (by assumption) ?_); clear lF' lN'; intro t' ys' c' h' tk' t2' F' hs' hl' N')))
    revert X; k_fill; intro X
    refine wpAny_call ?_
    k_dflt ktr_enter
    rename Below _ _ _ _ => B'
    rename Fr _ _ _ _ => F'
    rename News _ _ _ _ => N'
    have hC' : CodeHd _ 83 79 := hC.keeps (Fr.keep (by assumption))
    rename Top _ _ _ _ _ _ => T'
    rename Frag.In _ _ => X'
    k_steps
    rename Fr _ _ _ _ => F2
    rename News _ _ _ _ => N2
    rename_i q1 h2 l9 h4
    have hz1 : q1 ≠ D := neN (by omega)
    have S2 : LexS w ((q1, methodObj (.ref 49) (.ref lx)) :: news) lx dd dx rf cc st D cell u fdr fds oc ocell := S.cons (neN (by omega)) (neN (by omega))
    with_unfolding_all (refine For_lex (it := it') (q := q1) (fun m₀ ks ln m => ∃ vch t, okSigns ks ∧ ks.length ≤ 100 ∧ tokOf ks ln = some (tok, ksf, lnf) ∧ m = (fun z => if z = Str.ofString "ch" then vch else if z = Str.ofString "token" then some (.str (Str.ofString "") t) else m₀ z)) F2 (by rfl) (by rfl) (by rfl) B' X' hC' T' rfl (by ktr_room) (by ktr_units) S2 (.head _) (neN (by omega)) (neN (by omega)) ?_ ?_ ?_ (by passes_own) ?_ hys hlen (News.rot N2))
    rotate_left 3
    · exact ⟨_, _, hok, hks, hres, upd2 _ _ _⟩
    · rintro p hp; rcases hp with _ | ⟨_, hp⟩
      · exact neN (by omega)
      · exact Nat.ne_of_lt (kst_ltOf l1.2.2.2 p hp)
    · clear F2 N2
      rintro k ks' ln' m' t' ys' c' t2' h5 tk5 ⟨vch, tt, ho, hl, hres, rfl⟩ hys' hlen' F3 N3
      have hkm := ho k (.head _)
      by_cases hk92 : k = 92
      · cases ks' with
        | nil => subst hk92; exact nomatch hres
        | cons k2 r2 =>
          k_steps
          · exact absurd (hk92.symm.trans (dq_of (by assumption))) (by decide)
          · rename Fr _ _ _ _ => F4
            rename News _ _ _ _ => N4
            rename SgAre _ r2 => hs4
            rename List.length _ ≤ 100000 => hl4
            (with_unfolding_all refine For_lex (it := it') (q := q1) (fun m₀ ks ln m => ∃ tok1 vch t, okSigns ks ∧ ks.length + tok1.length ≤ 200 ∧ bare ks tok1 ln = some (tok, ksf, lnf) ∧ m = (fun z => if z = Str.ofString "ch" then vch else if z = Str.ofString "token" then some (.str tok1 t) else m₀ z)) F4 (by rfl) (by rfl) (by rfl) B' X' hC' T' rfl (by ktr_room) (by ktr_units) S2 (.head _) (neN (by omega)) (neN (by omega)) ?_ ?_ ?_ (by passes_own) ?_ hs4 hl4 N4)
            rotate_left 3
            · subst hk92
              exact ⟨Str.ofString "" ++ (⟨#[k2]⟩ : Str), _, _, fun k hk => ho k (.tail _ (.tail _ hk)), by have h1 : (Str.ofString "" ++ (⟨#[k2]⟩ : Str)).length = 1 := rfl; simp at hl; rw [h1]; omega, hres, upd2 _ _ _⟩
            · rintro p hp; rcases hp with _ | ⟨_, hp⟩
              · exact neN (by omega)
              · exact Nat.ne_of_lt (kst_ltOf l1.2.2.2 p hp)
            · clear F4 N4
              rintro k3 ks3 ln3 m3 t3' ys3 c3 t23 h6 tk6 ⟨tok1, vch3, tt3, ho3, hl3, hq3, rfl⟩ hys3 hlen3 F5 N5
              have hkm3 := ho3 k3 (.head _)
              have hsz : tok1.length ≤ 200 := by omega
              clear hk92 hys' hlen' hs4 hl4
              by_cases hk92 : k3 = 92
              · cases ks3 with
                | nil => subst hk92; exact nomatch hq3
                | cons k4 r4 =>
                  k_steps
                  · rename Fr _ _ _ _ => F6
                    rename News _ _ _ _ => N6
                    rename SgAre _ r4 => hs6
                    rename List.length _ ≤ 100000 => hl6
                    subst hk92
                    refine LexEnd.mk rfl (Nat.le_succ _) ?_ hs6 hl6 F6 N6
                    exact ⟨tok1 ++ (⟨#[k4]⟩ : Str), _, _, fun k hk => ho3 k (.tail _ (.tail _ hk)), by rw [add1_len]; simp at hl3; omega, hq3, updA _ ch_ne _ _ _ _ _⟩
                  · exact absurd hk92 (bs_not (by assumption))
                  · have hw := ws_yes hkm3 (by assumption)
                    subst hk92; exact nomatch hw
              · k_steps
                · have hnw := ws_no hkm3 (by assumption)
                  rename Fr _ _ _ _ => F6
                  rename News _ _ _ _ => N6
                  rw [if_neg (ws_10 hnw)] at N6
                  refine LexEnd.mk rfl (Nat.le_refl _) ?_ hys3 hlen3 F6 N6
                  rw [bare_else hnw hk92] at hq3
                  exact ⟨tok1 ++ (⟨#[k3]⟩ : Str), _, _, fun k hk => ho3 k (.tail _ hk), by rw [add1_len]; simp at hl3; omega, hq3, updB _ ch_ne _ _ _ _⟩
                · have hw := ws_yes hkm3 (by assumption)
                  rename Fr h₀ L _ m => F6
                  rename News h₀ L _ _ => N6
                  rw [bare_ws hw] at hq3
                  cases hq3
                  exact hret _ _ _ _ _ _ F6 hys3 hlen3 (News.drop2 N6)
            · rintro ln m ys c t2 h tk ⟨tok1, vch, t, _, _, hq, _⟩; exact nomatch hq
          · exact absurd hk92 (bs_not (by assumption))
          · have hw := ws_yes hkm (by assumption)
            subst hk92; exact nomatch hw
      · k_steps
        · have hk34 := dq_of (by assumption)
          rename Fr _ _ _ _ => F4
          rename News _ _ _ _ => N4
          (with_unfolding_all refine For_lex (it := it') (q := q1) (fun m₀ ks ln m => ∃ tok1 vch t, okSigns ks ∧ ks.length + tok1.length ≤ 200 ∧ quo ks tok1 ln = some (tok, ksf, lnf) ∧ m = (fun z => if z = Str.ofString "ch" then vch else if z = Str.ofString "token" then some (.str tok1 t) else m₀ z)) F4 (by rfl) (by rfl) (by rfl) B' X' hC' T' rfl (by ktr_room) (by ktr_units) S2 (.head _) (neN (by omega)) (neN (by omega)) ?_ ?_ ?_ (by passes_own) ?_ hys' hlen' N4)
          rotate_left 3
          · subst hk34
            exact ⟨Str.ofString "", _, _, fun k hk => ho k (.tail _ hk), by have h1 : (Str.ofString "").length = 0 := rfl; simp at hl; rw [h1]; omega, hres, upd2 _ _ _⟩
          · rintro p hp; rcases hp with _ | ⟨_, hp⟩
            · exact neN (by omega)
            · exact Nat.ne_of_lt (kst_ltOf l1.2.2.2 p hp)
          · clear F4 N4
            rintro k3 ks3 ln3 m3 t3' ys3 c3 t23 h6 tk6 ⟨tok1, vch3, tt3, ho3, hl3, hq3, rfl⟩ hys3 hlen3 F5 N5
            have hkm3 := ho3 k3 (.head _)
            have hsz : tok1.length ≤ 200 := by omega
            clear hk92 hys' hlen'
            by_cases hk92 : k3 = 92
            · cases ks3 with
              | nil => subst hk92; exact nomatch hq3
              | cons k4 r4 =>
                k_steps
                · exact absurd (hk92.symm.trans (dq_of (by assumption))) (by decide)
                · rename Fr _ _ _ _ => F6
                  rename News _ _ _ _ => N6
                  rename SgAre _ r4 => hs6
                  rename List.length _ ≤ 100000 => hl6
                  subst hk92
                  refine LexEnd.mk rfl (Nat.le_succ _) ?_ hs6 hl6 F6 N6
                  exact ⟨tok1 ++ (⟨#[k4]⟩ : Str), _, _, fun k hk => ho3 k (.tail _ (.tail _ hk)), by rw [add1_len]; simp at hl3; omega, hq3, updA _ ch_ne _ _ _ _ _⟩
                · exact absurd hk92 (bs_not (by assumption))
            · k_steps
              · have hk34 := dq_of (by assumption)
                subst hk34
                rename Fr h₀ L _ m => F6
                rename News h₀ L _ _ => N6
                rw [quo_34] at hq3
                cases hq3
                exact hret _ _ _ _ _ _ F6 hys3 hlen3 (News.drop2 N6)
              · have hn34 := dq_not (by assumption)
                rename Fr _ _ _ _ => F6
                rename News _ _ _ _ => N6
                refine LexEnd.mk rfl (Nat.le_refl _) ?_ hys3 hlen3 F6 N6
                rw [quo_else hn34 hk92] at hq3
                exact ⟨tok1 ++ (⟨#[k3]⟩ : Str), _, _, fun k hk => ho3 k (.tail _ hk), by rw [add1_len]; simp at hl3; omega, hq3, updB _ ch_ne _ _ _ _⟩
          · rintro ln m ys c t2 h tk ⟨tok1, vch, t, _, _, hq, _⟩; exact nomatch hq
        · have hn34 := dq_not (by assumption)
          have hnw := ws_no hkm (by assumption)
          exact (no_sign hkm hnw hn34 hk92).elim
        · have hw := ws_yes hkm (by assumption)
          rename Fr _ _ _ _ => F4
          rename News _ _ _ _ => N4
          refine LexEnd.mk rfl (Nat.le_refl _) ?_ hys' hlen' F4 N4
          refine ⟨_, _, fun k hk => ho k (.tail _ hk), by simp at hl; omega, ?_, upd112 _ _ _ _ _ _⟩
          rw [tokOf_ws hw] at hres
          exact hres
    · clear F2 N2
      rintro ln3 m3 ys3 c3 t23 h6 tk6 ⟨vch, tt, ho, hl, hres, rfl⟩ hys3 F5 N5
      have hz0 : some (Str.ofString "", [], ln3) = some (tok, ksf, lnf) := hres
      cases hz0
      k_steps
      rename Fr h₀ L _ m => F6
      rename News h₀ L _ _ => N6
      exact hret _ _ _ _ _ _ F6 hys3 (by cases hys3; simp) (News.drop1 N6))
end Mine
end
section
open PySem PySem.W PyProof.Rows PySem.Calls PySem.Spec PyProof.V
set_option maxRecDepth 100000
set_option maxHeartbeats 4000000
namespace Mine
local macro_rules | `(tactic| walk_at $s:str) => `(tactic| k_extra $s)
local macro_rules | `(tactic| k_mem) => `(tactic| assumption)
local macro_rules | `(tactic| k_room) => `(tactic| ktr_room)
local macro_rules | `(tactic| k_all) => `(tactic| first | assumption | (intro p9 hp9; have h9 := NB.at (by assumption) hp9; (refine neN ?_); (try dsimp only); omega))
def mvStep (lo : Str) (p : Int × Int × Int) (k : Nat) : Int × Int × Int := if inB lo k then (p.2.1, p.1, p.2.2) else (p.1, p.2.2, p.2.1)
def mvL (lo : Str) (l : List Nat) : Int × Int × Int := l.foldl (mvStep lo) (0, 1, 2)
section
variable {prog : Program} {w : World} {A : Around} {E : Value → Shared → Prop} {s : Shared} {h₀ : Heap} {L a : Addr} {m : Str → Option Value} {cn : Str} {cs : Scope} {ccd : Value} {cl : List (Str × Addr)} {Q : Value → Shared → Prop}
theorem if_inN {x y S : Str} {k : Nat} {t u : Tok} {p1 p2 p3 p4 p5 p6 : Pos} {k4 k5 : Nat} {n1 n2 : Int} (F : Fr h₀ L s.heap m) (hv : m x = some (.str ⟨#[k]⟩ t)) (hw : m y = some (.str S u)) (b : Bool) (hb : inB S k = b)
    (h : ∀ t tk, Q (.int (if b then n1 else n2) t) { s with toks := tk })
    (hk : cs.kind = .function := by rfl) (hx : (envX cn cs L a ccd cl).kindOf x = some .local := by rfl) (hy : (envX cn cs L a ccd cl).kindOf y = some .local := by rfl) (hd : (x == ("__debug__" : Str)) = false := by decide) (hd2 : (y == ("__debug__" : Str)) = false := by decide) :
    wpAny (model prog w) A (eval (.IfExp (.Compare (.Name x p1) [.In] [.Name y p2] p3) (.Constant (.int n1) k4 p4) (.Constant (.int n2) k5 p5) p6) (envX cn cs L a ccd cl)) Q E s := by
  refine wpAny_IfExp (wpAny_isTrue_Compare1 (nameX_L F hv (nameX_L F hw (in_str (wpAny_truthy_bool ?_)) hk hy hd2) hk hx hd))
  unfold inB at hb
  rw [hb]
  cases b with
  | true => rw [if_pos rfl]; exact wpAny_Constant_int (h _ _)
  | false => rw [if_neg (by decide)]; exact wpAny_Constant_int (h _ _)
end
theorem upd_3 {m m₀ : Str → Option Value} {n1 n2 n3 : Str} {x1 x2 x3 : Option Value} (e1 : m n1 = x1) (e2 : m n2 = x2) (e3 : m n3 = x3) (h : ∀ z, z ≠ n1 → z ≠ n2 → z ≠ n3 → m z = m₀ z) :
    m = fun z => if z = n1 then x1 else if z = n2 then x2 else if z = n3 then x3 else m₀ z := by
  funext z
  by_cases h1 : z = n1
  · subst h1; simp only [if_true]; exact e1
  by_cases h2 : z = n2
  · subst h2; simp only [if_neg h1, if_true]; exact e2
  by_cases h3 : z = n3
  · subst h3; simp only [if_neg h1, if_neg h2, if_true]; exact e3
  simp only [if_neg h1, if_neg h2, if_neg h3]
  exact h z h1 h2 h3

theorem News.keepMov {h₀ h : Heap} {L : Addr} {x0 x1 x2 x3 x4 x5 i : Addr × Obj} {n : List (Addr × Obj)} (N : News h₀ L h (x0 :: x1 :: x2 :: x3 :: x4 :: i :: x5 :: n)) : News h₀ L h (i :: x0 :: n) := N.perm fun p hp => by
  simp only [List.mem_cons] at hp ⊢
  rcases hp with h | h | h <;> simp [h]
theorem offI2 {l : List (Addr × Obj)} {i : Addr} {oi : Obj} (h : ∀ p ∈ l, p.1 ≠ i) : ∀ p ∈ l, ∀ q ∈ [(i, oi)], p.1 ≠ q.1 := fun p hp q hq => by rw [List.mem_singleton.mp hq]; exact h p hp
theorem mov_spec {w : World} {loose : List Str} {mean : ExcName → Option Value} {mg mb : Str → Option Value}
  {dp un : Nat} {gd : Option (List Code)} {cn : Str} {cs : Scope} {a : Addr} {ccd : Value} {cl : List (Str × Addr)} {outer : List Env} {A₀ : Around} {base h₀ : Heap} {L : Addr} {m : Str → Option Value} {news : List (Addr × Obj)} {s : Shared} {Q E : Value → Shared → Prop}
  {kk : List Nat} {lo : Str} {t u : Tok}
  (B : Below A₀ base outer h₀) (F : Fr h₀ L s.heap m) (X : (frag.heap_1 w.params).In h₀) (N : News h₀ L s.heap news) (T : Top topProg loose mean mg mb h₀) (hk : cs.kind = .function)
  (hdp : dp + 16 < recursionLimit) (hun : un + 100 < cLine) (hall : ∀ k ∈ kk, k < 128)
  (hret : ∀ D t1 t2 t3 n h' tk', Fr h₀ L h' m → News h₀ L h' ((D, listOf #[.int (mvL lo kk).1 t1, .int (mvL lo kk).2.1 t2, .int (mvL lo kk).2.2 t3] n) :: news) → (∀ p ∈ news, p.1 ≠ D) → Q (.ref D) { s with heap := h', toks := tk' }) :
  wpAny (model PySem.Challenge.rw_qc0004_01.row.prog w) (ktrTop dp un gd cn cs L a ccd cl outer) (call (.ref 101) [.str ⟨kk.toArray⟩ t, .str lo u]) Q E s := by
  have hks : (⟨kk.toArray⟩ : Str).cps.toList.map signItm = kk.map signItm := by simp
  w_strict (
    w_top off
    k_with_none
    k_with "execs cons" => (k_here; (rename Fr _ _ _ _ => lF'); (fail_if_success (with_reducible have h9 : Fr _ _ _ m9 := lF')); k_dflt (refine (let m9 : Str → Option Value := _; have F9 : Fr _ _ _ m9 := lF'; ?_)); clear lF')
    k_with "execs cons" => (k_here; (fail_if_success (with_reducible show wpAny _ _ _ Q9 _ _)); k_dflt (refine (let Q9 : Flow → Shared → Prop := _; let E9 : Value → Shared → Prop := _; (show wpAny _ _ (execs _ _) Q9 E9 _ from ?_))))
    k_with "eval IfExp" => ((k_here; (rename Fr _ _ _ _ => lF'); (first | (with_unfolding_all refine if_inN lF' (by rfl) (by rfl) true (by assumption) ?_) | (with_unfolding_all refine if_inN lF' (by rfl) (by rfl) false (by assumption) ?_)); intro t' tk'; (try dsimp only); (try simp only [if_true, Bool.false_eq_true, if_false])))
    k_with "exec For Name Name cons nil" => (((rename Fr _ _ _ _ => lF'); (with_unfolding_all (refine' For_turns lF' ?_)); k_whole))
    revert X; k_fill; intro X
    refine wpAny_call ?_
    k_dflt ktr_enter
    k_steps
    rename Fr _ _ _ _ => F2
    rename News _ _ _ _ => N2
    rename_i D0 h0 l0 h00
    k_dflt (refine iter_asciiTurns (by simpa using hall) rfl F2 N2 ?_)
    intro I l1
    rw [hks]
    refine items_ind (α := Nat) signItm (fun m₀ n₀ r m nw => ∃ (x y z : Int) (t1 t2 t3 : Tok) (n : Nat) (D : Nat) (v2 v3 : Option Value) (bs : List (Addr × Obj)), m = (fun s => if s = Str.ofString "line" then some (.ref D) else if s = Str.ofString "sign" then v2 else if s = Str.ofString "k" then v3 else m₀ s) ∧ nw = (D, listOf #[.int x t1, .int y t2, .int z t3] n) :: bs ∧ (∀ p ∈ news, p ∈ bs) ∧ (∀ p ∈ bs, p.1 ≠ I) ∧ (∀ p ∈ bs, p.1 ≠ D) ∧ D ≠ I ∧ r.foldl (mvStep lo) (x, y, z) = mvL lo kk) ?_ ?_ ?_
    · refine ⟨0, 1, 2, _, _, _, _, _, _, _, news, upd_3 rfl rfl rfl (fun _ _ _ _ => rfl), rfl, fun p hp => hp, ?_, ?_, ?_, rfl⟩
      · exact fun p hp => Nat.ne_of_lt (l1 p (.tail _ hp))
      · exact fun p hp => Nat.ne_of_lt (l0 p hp)
      · exact Nat.ne_of_lt (l1 _ (.head _))
    · rintro k r m1 nw1 v h tk ⟨x, y, z, t1, t2, t3, n, D, v2, v3, bs, rfl, rfl, hsub, b1, b2, b3, hf⟩ hv F3
      obtain ⟨t4, rfl⟩ := hv
      ktu_objs
      cases hB : inB lo k with
      | true =>
        k_steps
        rename Fr _ _ _ _ => F5
        rename News _ _ _ _ => N5
        rename_i D5 h51 l5 h52
        have hI5 := l5
        refine ⟨_, _, _, _, rfl, F5, News.keepMov N5, offI2 (List.forall_mem_cons.mpr ⟨neN (by dsimp only; omega), b1⟩), trivial, _, _, _, _, _, _, _, _, _, _, bs, upd_3 rfl rfl rfl (fun z h1 h2 h3 => by repeat first | with_reducible rfl | with_reducible refine (if_neg h1).trans ?_ | with_reducible refine (if_neg h2).trans ?_ | with_reducible refine (if_neg h3).trans ?_), rfl, hsub, b1, fun p hp => Nat.ne_of_lt (kst_ltOf l5.2.2.2.2.2.2 p hp), neN (by omega), ?_⟩
        rw [List.foldl_cons, show mvStep lo (x, y, z) k = (y, x, z) from by unfold mvStep; rw [hB]; rfl] at hf
        exact hf
      | false =>
        k_steps
        rename Fr _ _ _ _ => F5
        rename News _ _ _ _ => N5
        rename_i D5 h51 l5 h52
        have hI5 := l5
        refine ⟨_, _, _, _, rfl, F5, News.keepMov N5, offI2 (List.forall_mem_cons.mpr ⟨neN (by dsimp only; omega), b1⟩), trivial, _, _, _, _, _, _, _, _, _, _, bs, upd_3 rfl rfl rfl (fun z h1 h2 h3 => by repeat first | with_reducible rfl | with_reducible refine (if_neg h1).trans ?_ | with_reducible refine (if_neg h2).trans ?_ | with_reducible refine (if_neg h3).trans ?_), rfl, hsub, b1, fun p hp => Nat.ne_of_lt (kst_ltOf l5.2.2.2.2.2.2 p hp), neN (by omega), ?_⟩
        rw [List.foldl_cons, show mvStep lo (x, y, z) k = (x, z, y) from by unfold mvStep; rw [hB]; rfl] at hf
        exact hf
    · rintro m1 nw1 h tk ⟨x, y, z, t1, t2, t3, n, D, v2, v3, bs, rfl, rfl, hsub, b1, b2, b3, hf⟩ F3 N3
      have hf : (x, y, z) = mvL lo kk := hf
      dsimp only
      k_steps
      rename Fr h₀ L _ m => F5
      rename News h₀ L _ _ => N5
      rw [← hf] at hret
      refine hret D t1 t2 t3 n _ _ F5 (N5.perm fun p hp => ?_) fun p hp => b2 p (hsub p hp)
      rcases List.mem_cons.mp hp with e | h
      · rw [e]; exact .head _
      · exact .tail _ (hsub p h))
end Mine
end
section
open PySem PySem.W PyProof.Rows PySem.Calls PySem.Spec PyProof.V
set_option maxRecDepth 100000
set_option maxHeartbeats 2000000
namespace Mine
local macro_rules | `(tactic| walk_at "my.pad0") => `(tactic| skip)
local macro_rules | `(tactic| walk_at $s:str) => `(tactic| k_extra $s)
local macro_rules | `(tactic| k_mem) => `(tactic| assumption)
local macro_rules | `(tactic| k_room) => `(tactic| ktr_room)
local macro_rules | `(tactic| k_all) => `(tactic| first | assumption | (intro p9 hp9; have h9 := NB.at (by assumption) hp9; (refine neN ?_); (try dsimp only); omega))
@[irreducible] def bp (n : Nat) : Int := 1048576 ^ n
section
variable {prog : Program} {w : World} {A : Around} {E : Value → Shared → Prop} {s : Shared} {t u : Tok} {Q : Value → Shared → Prop}
theorem pow_bp {n : Nat} (hn : n ≤ 100) (h : Q (.int (bp n) s.toks) { s with toks := s.toks + 1 }) : wpAny (model prog w) A (binaryOp .Pow (.int 1048576 t) (.int (n : Nat) u)) Q E s := by
  unfold bp at h
  exact PyProof.Rows.pow_int_small (by omega) (by omega) (by decide) (by simpa using h)
end
theorem pow_bp2 {prog : Program} {w : World} {A : Around} {E : Value → Shared → Prop} {s : Shared} {t u : Tok} {Q : Value → Shared → Prop} (h : Q (.int (bp 2) s.toks) { s with toks := s.toks + 1 }) : wpAny (model prog w) A (binaryOp .Pow (.int 1048576 t) (.int 2 u)) Q E s := pow_bp (n := 2) (by decide) h
theorem pow_bp4 {prog : Program} {w : World} {A : Around} {E : Value → Shared → Prop} {s : Shared} {t u : Tok} {Q : Value → Shared → Prop} (h : Q (.int (bp 4) s.toks) { s with toks := s.toks + 1 }) : wpAny (model prog w) A (binaryOp .Pow (.int 1048576 t) (.int 4 u)) Q E s := pow_bp (n := 4) (by decide) h
theorem pow_bp6 {prog : Program} {w : World} {A : Around} {E : Value → Shared → Prop} {s : Shared} {t u : Tok} {Q : Value → Shared → Prop} (h : Q (.int (bp 6) s.toks) { s with toks := s.toks + 1 }) : wpAny (model prog w) A (binaryOp .Pow (.int 1048576 t) (.int 6 u)) Q E s := pow_bp (n := 6) (by decide) h
abbrev M4 := Int × Int × Int × Int
@[irreducible] def mvM (k : Nat) : M4 := if k = 34 then (-1, bp 2, 0, bp 4) else if k = 92 then (-bp 6, bp 4, 0, bp 2) else if k = 32 then (bp 4, 0, bp 2, -1) else (bp 2, 0, bp 4, -bp 6)
abbrev tup4 (a b c d : Int) (t1 t2 t3 t4 : Tok) : Obj := { cls := .type "tuple", data := .seq #[.int a t1, .int b t2, .int c t3, .int d t4] }
theorem mv_34 : mvM 34 = (-1, bp 2, 0, bp 4) := by unfold mvM; rfl
theorem mv_92 : mvM 92 = (-bp 6, bp 4, 0, bp 2) := by unfold mvM; rfl
theorem mv_32 : mvM 32 = (bp 4, 0, bp 2, -1) := by unfold mvM; rfl
theorem mv_10 : mvM 10 = (bp 2, 0, bp 4, -bp 6) := by unfold mvM; rfl
def mulM (a b : M4) : M4 := (a.1 * b.1 + a.2.1 * b.2.2.1, a.1 * b.2.1 + a.2.1 * b.2.2.2, a.2.2.1 * b.1 + a.2.2.2 * b.2.2.1, a.2.2.1 * b.2.1 + a.2.2.2 * b.2.2.2)
def matL (l : List Nat) (a : M4) : M4 := l.foldl (fun a k => mulM a (mvM k)) a
def smI (a : Int) : Bool := decide (Builtin.Int.intBits a ≤ 1048576)
def smM (a : M4) : Bool := smI a.1 && smI a.2.1 && smI a.2.2.1 && smI a.2.2.2
def okM : List Nat → M4 → Bool
  | [], _ => true
  | k :: r, a => smM a && okM r (mulM a (mvM k))
theorem smI_mul {a b : Int} (ha : smI a = true) (hb : smI b = true) : IntMulOk a b := IntMulOk.of_bits (of_decide_eq_true ha) (of_decide_eq_true hb)
theorem smI_bp2 : smI (bp 2) = true := by unfold bp; decide +kernel
theorem smI_bp4 : smI (bp 4) = true := by unfold bp; decide +kernel
theorem smI_nbp6 : smI (-bp 6) = true := by unfold bp; decide +kernel
theorem smI_m1 : smI (-1) = true := by decide +kernel
theorem smI_0 : smI 0 = true := by decide +kernel
theorem upd_9 {m m₀ : Str → Option Value} {n1 n2 n3 n4 n5 n6 n7 n8 n9 : Str} {x1 x2 x3 x4 x5 x6 x7 x8 x9 : Option Value} (e1 : m n1 = x1) (e2 : m n2 = x2) (e3 : m n3 = x3) (e4 : m n4 = x4) (e5 : m n5 = x5) (e6 : m n6 = x6) (e7 : m n7 = x7) (e8 : m n8 = x8) (e9 : m n9 = x9) (h : ∀ z, z ≠ n1 → z ≠ n2 → z ≠ n3 → z ≠ n4 → z ≠ n5 → z ≠ n6 → z ≠ n7 → z ≠ n8 → z ≠ n9 → m z = m₀ z) :
    m = fun z => if z = n1 then x1 else if z = n2 then x2 else if z = n3 then x3 else if z = n4 then x4 else if z = n5 then x5 else if z = n6 then x6 else if z = n7 then x7 else if z = n8 then x8 else if z = n9 then x9 else m₀ z := by
  funext z
  by_cases h1 : z = n1
  · subst h1; simp only [if_true]; exact e1
  by_cases h2 : z = n2
  · subst h2; simp only [if_neg h1, if_true]; exact e2
  by_cases h3 : z = n3
  · subst h3; simp only [if_neg h1, if_neg h2, if_true]; exact e3
  by_cases h4 : z = n4
  · subst h4; simp only [if_neg h1, if_neg h2, if_neg h3, if_true]; exact e4
  by_cases h5 : z = n5
  · subst h5; simp only [if_neg h1, if_neg h2, if_neg h3, if_neg h4, if_true]; exact e5
  by_cases h6 : z = n6
  · subst h6; simp only [if_neg h1, if_neg h2, if_neg h3, if_neg h4, if_neg h5, if_true]; exact e6
  by_cases h7 : z = n7
  · subst h7; simp only [if_neg h1, if_neg h2, if_neg h3, if_neg h4, if_neg h5, if_neg h6, if_true]; exact e7
  by_cases h8 : z = n8
  · subst h8; simp only [if_neg h1, if_neg h2, if_neg h3, if_neg h4, if_neg h5, if_neg h6, if_neg h7, if_true]; exact e8
  by_cases h9 : z = n9
  · subst h9; simp only [if_neg h1, if_neg h2, if_neg h3, if_neg h4, if_neg h5, if_neg h6, if_neg h7, if_neg h8, if_true]; exact e9
  simp only [if_neg h1, if_neg h2, if_neg h3, if_neg h4, if_neg h5, if_neg h6, if_neg h7, if_neg h8, if_neg h9]
  exact h z h1 h2 h3 h4 h5 h6 h7 h8 h9

theorem mv_sm {k : Nat} (h : k ∈ [34, 92, 32, 10]) : smI (mvM k).1 = true ∧ smI (mvM k).2.1 = true ∧ smI (mvM k).2.2.1 = true ∧ smI (mvM k).2.2.2 = true := by
  simp only [List.mem_cons, List.not_mem_nil, or_false] at h
  rcases h with rfl | rfl | rfl | rfl
  · rw [mv_34]; exact ⟨smI_m1, smI_bp2, smI_0, smI_bp4⟩
  · rw [mv_92]; exact ⟨smI_nbp6, smI_bp4, smI_0, smI_bp2⟩
  · rw [mv_32]; exact ⟨smI_bp4, smI_0, smI_bp2, smI_m1⟩
  · rw [mv_10]; exact ⟨smI_bp2, smI_0, smI_bp4, smI_nbp6⟩
theorem moves_at {T1 T2 T3 T4 : Value} : let kvs := [(Str.ofString "\"", T1), (Str.ofString "\\", T2), (Str.ofString " ", T3), (Str.ofString "\n", T4)]
    valueAt kvs (⟨#[34]⟩ : Str) = some T1 ∧ valueAt kvs (⟨#[92]⟩ : Str) = some T2 ∧ valueAt kvs (⟨#[32]⟩ : Str) = some T3 ∧ valueAt kvs (⟨#[10]⟩ : Str) = some T4 := by
  have a1 : Str.ofString "\"" = ⟨#[34]⟩ := by decide +kernel
  have a2 : Str.ofString "\\" = ⟨#[92]⟩ := by decide +kernel
  have a3 : Str.ofString " " = ⟨#[32]⟩ := by decide +kernel
  have a4 : Str.ofString "\n" = ⟨#[10]⟩ := by decide +kernel
  rw [a1, a2, a3, a4]
  refine ⟨?_, ?_, ?_, ?_⟩ <;> simp [valueAt, List.find?_cons]
theorem moves_item {w : World} {A : Around} {E : Value → Shared → Prop} {s : Shared} {h₀ : Heap} {L : Addr} {news : List (Addr × Obj)} {value slice : PySem.Expr} {d : Addr} {od : Obj} {T1 T2 T3 T4 : Addr} {a1 a2 a3 a4 b1 b2 b3 b4 c1 c2 c3 c4 d1 d2 d3 d4 tk : Tok} {k : Nat} {Q : Value → Shared → Prop}
    (N : News h₀ L s.heap news) (hd : od.IsDictOf (PySem.strKind pr w) [(Str.ofString "\"", .ref T1), (Str.ofString "\\", .ref T2), (Str.ofString " ", .ref T3), (Str.ofString "\n", .ref T4)]) (hp : (d, od) ∈ news)
    (m1 : (T1, tup4 (-1) (bp 2) 0 (bp 4) a1 a2 a3 a4) ∈ news) (m2 : (T2, tup4 (-bp 6) (bp 4) 0 (bp 2) b1 b2 b3 b4) ∈ news) (m3 : (T3, tup4 (bp 4) 0 (bp 2) (-1) c1 c2 c3 c4) ∈ news) (m4 : (T4, tup4 (bp 2) 0 (bp 4) (-bp 6) d1 d2 d3 d4) ∈ news) (hk : k ∈ [34, 92, 32, 10])
    (h : ∀ T t1 t2 t3 t4, (T, tup4 (mvM k).1 (mvM k).2.1 (mvM k).2.2.1 (mvM k).2.2.2 t1 t2 t3 t4) ∈ news → Q (.ref T) { s with toks := s.toks + 1 })
    (hsub : subscripted slice false (.ref d) (.str ⟨#[k]⟩ tk) = operate [.ref d, .str ⟨#[k]⟩ tk] (getItem (.ref d) (.str ⟨#[k]⟩ tk)) := by with_unfolding_all rfl) (hg : ∀ r, letTemporaryGo value (.ref d) r = pure () := by intro _; with_unfolding_all rfl) :
    wpAny (model pr w) A (subscriptTail value slice (.ref d) (.str ⟨#[k]⟩ tk)) Q E s := by
  obtain ⟨v1, v2, v3, v4⟩ := moves_at (T1 := .ref T1) (T2 := .ref T2) (T3 := .ref T3) (T4 := .ref T4)
  simp only [List.mem_cons, List.not_mem_nil, or_false] at hk
  rcases hk with rfl | rfl | rfl | rfl
  · rw [mv_34] at h; exact kda_item (knd := PySem.strKind _ w) N hp hd (strKind_is _ _ _ _) v1 (h _ _ _ _ _ m1) hsub hg
  · rw [mv_92] at h; exact kda_item (knd := PySem.strKind _ w) N hp hd (strKind_is _ _ _ _) v2 (h _ _ _ _ _ m2) hsub hg
  · rw [mv_32] at h; exact kda_item (knd := PySem.strKind _ w) N hp hd (strKind_is _ _ _ _) v3 (h _ _ _ _ _ m3) hsub hg
  · rw [mv_10] at h; exact kda_item (knd := PySem.strKind _ w) N hp hd (strKind_is _ _ _ _) v4 (h _ _ _ _ _ m4) hsub hg
theorem forget_toks {M : Model} {A : Around} {α : Type} {t : Sem α} {Q : α → Shared → Prop} {E : Value → Shared → Prop} {h : Heap} {g : Array GenState} {d : Drawn} {o : OsState} {k : Nat} (hq : ∀ tk, wpAny M A t Q E ⟨h, g, d, tk, o⟩) : wpAny M A t Q E ⟨h, g, d, k + 1, o⟩ := hq _
theorem News.keep1 {h₀ h : Heap} {L : Addr} {x0 x1 x2 x3 x4 x5 x6 : Addr × Obj} {n : List (Addr × Obj)} (N : News h₀ L h (x0 :: x1 :: x2 :: x3 :: x4 :: x5 :: x6 :: n)) : News h₀ L h (x0 :: n) := N.perm fun p hp => by
  simp only [List.mem_cons] at hp ⊢
  rcases hp with h | h <;> simp [h]
theorem mat_spec {w : World} {loose : List Str} {mean : ExcName → Option Value} {mg mb : Str → Option Value}
  {dp un : Nat} {gd : Option (List Code)} {cn : Str} {cs : Scope} {a : Addr} {ccd : Value} {cl : List (Str × Addr)} {outer : List Env} {A₀ : Around} {base h₀ : Heap} {L : Addr} {m : Str → Option Value} {news : List (Addr × Obj)} {s : Shared} {Q E : Value → Shared → Prop}
  {kk : List Nat} {t u : Tok}
  (B : Below A₀ base outer h₀) (F : Fr h₀ L s.heap m) (X : (frag.heap_1 w.params).In h₀) (N : News h₀ L s.heap news) (T : Top topProg loose mean mg mb h₀) (hk : cs.kind = .function)
  (hdp : dp + 16 < recursionLimit) (hun : un + 100 < cLine) (h4 : ∀ k ∈ kk, k ∈ [34, 92, 32, 10]) (hok : okM kk (1, 0, 0, 1) = true)
  (hret : ∀ D t1 t2 t3 t4 h' tk', Fr h₀ L h' m → News h₀ L h' ((D, ({ cls := .type "tuple", data := .seq #[.int (matL kk (1, 0, 0, 1)).1 t1, .int (matL kk (1, 0, 0, 1)).2.1 t2, .int (matL kk (1, 0, 0, 1)).2.2.1 t3, .int (matL kk (1, 0, 0, 1)).2.2.2 t4] } : Obj)) :: news) → Q (.ref D) { s with heap := h', toks := tk' }) :
  wpAny (model PySem.Challenge.rw_qc0004_01.row.prog w) (ktrTop dp un gd cn cs L a ccd cl outer) (call (.ref 115) [.str (Ls kk) t, .int 1048576 u]) Q E s := by
  have hall : ∀ k ∈ kk, k < 128 := fun k hk => by have := h4 k hk; simp at this; omega
  w_strict (
    w_top off
    k_with_none
    k_with "execs cons" => (k_here; (rename Fr _ _ _ _ => lF'); (fail_if_success (with_reducible have h9 : Fr _ _ _ m9 := lF')); k_dflt (refine (let m9 : Str → Option Value := _; have F9 : Fr _ _ _ m9 := lF'; ?_)); clear lF')
    k_with "execs cons" => (k_here; (fail_if_success (with_reducible show wpAny _ _ _ Q9 _ _)); k_dflt (refine (let Q9 : Flow → Shared → Prop := _; let E9 : Value → Shared → Prop := _; (show wpAny _ _ (execs _ _) Q9 E9 _ from ?_))))
    k_with "execs cons" => (k_here; with_reducible refine forget_toks ?_; intro tk9)
    k_with "eval BinOp" => (k_here; with_reducible refine forget_toks ?_; intro tk9)
    k_with "newTuple" => (k_here; with_reducible refine forget_toks ?_; intro tk9)
    k_with "binaryOp Pow int int" => ((k_here; with_reducible (first | (refine pow_bp2 ?_) | (refine pow_bp4 ?_) | (refine pow_bp6 ?_))))
    k_with "unaryOp USub int" => ((k_here; with_reducible refine PyProof.Rows.neg_int ?_))
    k_with "subscriptTail" => (k_here; (with_reducible show wpAny _ _ (subscriptTail _ _ (Value.ref _) (Value.str _ _)) _ _ _); (rename News _ _ _ _ => lN'); (rename Obj.IsDictOf (PySem.strKind _ _) _ _ => lD'); k_dflt (refine moves_item lN' lD' (by k_mem) (by k_mem) (by k_mem) (by k_mem) (by k_mem) (by assumption) ?_); intro T9 t91 t92 t93 t94 hT9; (try dsimp only))
    k_with "my.sm" => (first | exact (mv_sm (by assumption)).1 | exact (mv_sm (by assumption)).2.1 | exact (mv_sm (by assumption)).2.2.1 | exact (mv_sm (by assumption)).2.2.2 | assumption | exact smI_bp2 | exact smI_bp4 | exact smI_nbp6 | exact smI_m1 | exact smI_0)
    k_with "binaryOp Mult int int" => ((k_here; (with_reducible refine PySem.P.mul_int ?_ (hm := smI_mul (by walk_at "my.sm") (by walk_at "my.sm")))))
    k_with "eval Dict" => ((k_here; k_dflt (refine kdn_str (by rfl) (by k_asm) (by k_asm) (by exact Top.nolimit (by k_asm)) (by rfl) (by rfl) (by exact List.cons_ne_nil _ _) (by exact Nat.le_of_ble_eq_true rfl) ?_); intro d' h' o' F' N' l1 lo' hd'; (try k_lt l1)))
    k_with "KdnMade" => ((k_here; k_dflt (refine kdn_made_str (by k_asm) (by k_asm) (by k_updF) (by k_asm) (by rfl) (by exact of_decide_eq_true (by rfl)) ?_; intro h' o' F' N' hd'); (try dsimp only at N')))
    k_with "newTuple" => ((k_here; k_dflt (refine kup_newTuple (by k_asm) (by k_asm) ?_ (by kmk_size)); intro D' h' F' N' l1; (try k_lt l1); (try k_sweep)))
    k_with "exec For Name Name cons nil" => (((rename Fr _ _ _ _ => lF'); (with_unfolding_all (refine' For_turns lF' ?_)); k_whole))
    revert X; k_fill; intro X
    refine wpAny_call ?_
    k_dflt ktr_enter
    k_steps
    rename Fr _ _ _ _ => F2
    rename News _ _ _ _ => N2
    rename Obj.IsDictOf (PySem.strKind _ _) _ _ => hd2
    k_dflt (refine iter_asciiTurns (by simpa using hall) rfl F2 N2 ?_)
    intro I lI
    have hks : (Ls kk).cps.toList.map signItm = kk.map signItm := by simp
    rw [hks]
    obtain ⟨J, hJ⟩ : ∃ J : (Str → Option Value) → List (Addr × Obj) → List Nat → (Str → Option Value) → List (Addr × Obj) → Prop, ∀ m₀ n₀ r m nw, J m₀ n₀ r m nw ↔ (∃ (p q r0 s0 : Int) (t1 t2 t3 t4 : Tok) (v5 v6 v7 v8 v9 : Option Value),
      m = (fun z => if z = Str.ofString "p" then some (.int p t1) else if z = Str.ofString "q" then some (.int q t2) else if z = Str.ofString "r" then some (.int r0 t3) else if z = Str.ofString "s" then some (.int s0 t4) else if z = Str.ofString "sign" then v5 else if z = Str.ofString "g" then v6 else if z = Str.ofString "h" then v7 else if z = Str.ofString "i" then v8 else if z = Str.ofString "j" then v9 else m₀ z) ∧
      nw = n₀ ∧ (∀ k ∈ r, k ∈ [34, 92, 32, 10]) ∧ okM r (p, q, r0, s0) = true ∧ matL r (p, q, r0, s0) = matL kk (1, 0, 0, 1)) := ⟨fun _ _ _ _ _ => _, fun _ _ _ _ _ => Iff.rfl⟩
    refine items_ind (α := Nat) signItm J ?_ ?_ ?_
    · exact (hJ _ _ _ _ _).mpr ⟨1, 0, 0, 1, _, _, _, _, _, _, _, _, _, upd_9 rfl rfl rfl rfl rfl rfl rfl rfl rfl (fun _ _ _ _ _ _ _ _ _ _ => rfl), rfl, h4, hok, rfl⟩
    · rintro k r m1 nw1 v h tk hj hv F3
      have hj' := (hJ _ _ _ _ _).mp hj
      clear hj
      obtain ⟨p, q, r0, s0, t1, t2, t3, t4, v5, v6, v7, v8, v9, rfl, rfl, hr4, hokr, hf⟩ := hj'
      obtain ⟨t5, rfl⟩ := hv
      have hk4 := hr4 k (.head _)
      have hr5 := fun k hk => hr4 k (.tail _ hk)
      unfold okM smM at hokr
      simp only [Bool.and_eq_true] at hokr
      obtain ⟨⟨⟨⟨hs1, hs2⟩, hs3⟩, hs4⟩, hok2⟩ := hokr
      ktu_objs
      k_steps
      rename Fr _ _ _ _ => F5
      rename News _ _ _ _ => N5
      exact ⟨_, _, _, _, rfl, F5, kti_tail N5, offI lI rfl, trivial, (hJ _ _ _ _ _).mpr ⟨_, _, _, _, _, _, _, _, _, _, _, _, _, upd_9 rfl rfl rfl rfl rfl rfl rfl rfl rfl (fun z h1 h2 h3 h4 h5 h6 h7 h8 h9 => by repeat first | with_reducible rfl | with_reducible refine (if_neg h1).trans ?_ | with_reducible refine (if_neg h2).trans ?_ | with_reducible refine (if_neg h3).trans ?_ | with_reducible refine (if_neg h4).trans ?_ | with_reducible refine (if_neg h5).trans ?_ | with_reducible refine (if_neg h6).trans ?_ | with_reducible refine (if_neg h7).trans ?_ | with_reducible refine (if_neg h8).trans ?_ | with_reducible refine (if_neg h9).trans ?_), rfl, hr5, hok2, hf⟩⟩
    · rintro m1 nw1 h tk hj F3 N3
      have hj' := (hJ _ _ _ _ _).mp hj
      clear hj
      obtain ⟨p, q, r0, s0, t1, t2, t3, t4, v5, v6, v7, v8, v9, rfl, rfl, hr4, hokr, hf⟩ := hj'
      have hf : (p, q, r0, s0) = matL kk (1, 0, 0, 1) := hf
      dsimp only
      k_steps
      rw [← hf] at hret
      rename Fr h₀ L _ m => F5
      rename News h₀ L _ _ => N5
      exact hret _ t1 t2 t3 t4 _ _ F5 (News.keep1 N5))
end Mine
end
section
open PySem PySem.W PyProof.Rows PySem.Calls PySem.Spec PyProof.V
set_option maxRecDepth 100000
set_option maxHeartbeats 4000000
namespace Mine
local macro_rules | `(tactic| walk_at $s:str) => `(tactic| k_extra $s)
local macro_rules | `(tactic| k_mem) => `(tactic| assumption)
def sumC (c : List (Int × Int)) : Int := (c.map (·.2)).sum
theorem kdf_flat (c : List (Int × Int)) : (kdfD c).map (fun p => Itm.flat p.2) = c.map fun p => Itm.flat (PyData.int p.2) := by
  unfold kdfD; rw [List.map_map]; rfl
theorem cnt_spec {w : World} {loose : List Str} {mean : ExcName → Option Value} {mg mb : Str → Option Value}
  {dp un : Nat} {gd : Option (List Code)} {cn : Str} {cs : Scope} {a : Addr} {ccd : Value} {cl : List (Str × Addr)} {outer : List Env} {A₀ : Around} {base h₀ : Heap} {L : Addr} {m : Str → Option Value} {news : List (Addr × Obj)} {s : Shared} {Q E : Value → Shared → Prop}
  {d : Addr} {od : Obj} {c : List (Int × Int)}
  (B : Below A₀ base outer h₀) (F : Fr h₀ L s.heap m) (X : (frag.heap_1 w.params).In h₀) (N : News h₀ L s.heap news) (T : Top topProg loose mean mg mb h₀) (hk : cs.kind = .function)
  (hdp : dp + 16 < recursionLimit) (hun : un + 100 < cLine)
  (hm : (d, od) ∈ news) (lo : (d == sysModules) = false) (hd : IntD w od c)
  (hret : ∀ t h' tk', Fr h₀ L h' m → News h₀ L h' news → Q (.int (sumC c) t) { s with heap := h', toks := tk' }) :
  wpAny (model PySem.Challenge.rw_qc0004_01.row.prog w) (ktrTop dp un gd cn cs L a ccd cl outer) (call (.ref 28) [.ref d]) Q E s := by
  obtain ⟨kvs, hdk, hf⟩ := hd
  w_strict (
    w_top off
    k_with_none
    k_with "execs cons" => (k_here; (rename Fr _ _ _ _ => lF'); (fail_if_success (with_reducible have h9 : Fr _ _ _ m9 := lF')); k_dflt (refine (let m9 : Str → Option Value := _; have F9 : Fr _ _ _ m9 := lF'; ?_)); clear lF')
    k_with "execs cons" => (k_here; (fail_if_success (with_reducible show wpAny _ _ _ Q9 _ _)); k_dflt (refine (let Q9 : Flow → Shared → Prop := _; let E9 : Value → Shared → Prop := _; (show wpAny _ _ (execs _ _) Q9 E9 _ from ?_))))
    k_with "exec For Name Call cons nil" => (((rename Fr _ _ _ _ => lF'); (with_unfolding_all (refine' For_turns lF' ?_)); k_whole))
    revert X; k_fill; intro X
    refine wpAny_call ?_
    k_dflt ktr_enter
    k_steps
    rename Fr _ _ _ _ => F2
    rename News _ _ _ _ => N2
    k_dflt (refine kti_vals (knd := PySem.intKind _ _) (enc := PyData.int) (by rfl) F2 N2 ⟨_, (N2 _ (.head _)).1, rfl, rfl⟩ (intTab_of N2 (.tail _ hm) lo ⟨_, hdk, hf⟩) (.tail _ hm) (kdf_flat _) ?_)
    intro I l1
    refine items_ind (α := Int × Int) (fun p => .flat (.int p.2)) (fun m₀ n₀ r m nw => ∃ (n : Int) (t : Tok) (v2 : Option Value), m = (fun z => if z = Str.ofString "nc" then some (.int n t) else if z = Str.ofString "calls" then v2 else m₀ z) ∧ nw = n₀ ∧ n + sumC r = sumC c) ?_ ?_ ?_
    · exact ⟨0, _, _, upd_2 rfl rfl (fun _ _ _ => rfl), rfl, by simp⟩
    · rintro ⟨k1, v1⟩ r m1 nw1 v h tk ⟨n, t, v2, rfl, rfl, hn⟩ hv F3
      obtain ⟨t1, rfl⟩ := PyProof.V.Flat.int_inv hv
      ktu_objs
      k_steps
      rename Fr _ _ _ _ => F4
      rename News _ _ _ _ => N4
      refine ⟨_, _, _, _, rfl, F4, N4, offI l1 rfl, ⟨.tail _ hm, trivial⟩, n + v1, _, _, upd_2 rfl rfl (fun z h1 h2 => by repeat first | with_reducible rfl | with_reducible refine (if_neg h1).trans ?_ | with_reducible refine (if_neg h2).trans ?_), rfl, ?_⟩
      simp [sumC] at hn ⊢; omega
    · rintro m1 nw1 h tk ⟨n, t, v2, rfl, rfl, hn⟩ F3 N3
      have hn : n = sumC c := by simpa [sumC] using hn
      subst hn
      dsimp only
      k_steps
      exact hret _ _ _ (by k_asm) (cb_drop (by assumption) fun p hp => .tail _ hp))
end Mine
end
section
open PySem PySem.W PyProof.Rows PySem.Calls PySem.Spec PyProof.V
set_option maxRecDepth 100000
namespace Mine
theorem fr_same {h₀ h : Heap} {L : Addr} {m : Str → Option Value} {x : Str} {v : Value} (F : Fr h₀ L h m) (hx : m x = some v) : Fr h₀ L h (fun z => if z = x then some v else m z) := by
  have : (fun z => if z = x then some v else m z) = m := funext fun z => by
    split
    · next e => rw [e, hx]
    · rfl
  rw [this]; exact F
/-- if name != told: joined = add_callers({k + 2: -c ..}, {k - 2: -c ..}): one rule for both ways -/
theorem ring_if {w : World} {loose : List Str} {mean : ExcName → Option Value} {mg mb : Str → Option Value}
  {dp un : Nat} {gd : Option (List Code)} {cn : Str} {cs : Scope} {a : Addr} {ccd : Value} {cl : List (Str × Addr)} {outer : List Env} {A₀ : Around} {base h₀ : Heap} {L : Addr} {m : Str → Option Value} {rest : List (Addr × Obj)} {s : Shared} {E : Value → Shared → Prop} {Q : Flow → Shared → Prop}
  {i : Nat} {b : Bool} {jd : Addr} {jo : Obj} {c : List (Int × Int)} {t1 t2 : Tok} {nN nT nJ nA xk1 xv1 xk2 xv2 : Str} {p1 p2 p3 p4 p5 p6 p7 p8 q1 q2 q3 q4 q5 q6 q7 q8 q9 r1 r2 r3 r4 r5 r6 r7 r8 r9 u1 u2 v1 v2 : Pos} {k1 k2 k3 k4 : Nat} {scope1 scope2 : Scope} {cc1 cc2 : List (Str × Addr)} {pos1 pos2 : Pos} {pl1 pl2 : Sem Bool}
  (B : Below A₀ base outer h₀) (F : Fr h₀ L s.heap m) (X : (frag.heap_1 w.params).In h₀) (N : News h₀ L s.heap ((jd, jo) :: rest)) (T : Top topProg loose mean mg mb h₀) (hk : cs.kind = .function)
  (hdp : dp + 8 < recursionLimit) (hun : un + 64 < cLine) (hi : i < 5)
  (hn : m nN = some (.str (wS (nx i b)) t1)) (ht : m nT = some (.str (toldS i b) t2)) (hj : m nJ = some (.ref jd)) (hlt : ∀ p ∈ rest, p.1 < jd) (lo : (jd == sysModules) = false) (hI : IntD w jo c) (hl : c.length ≤ 1000000)
  (kN : (envX cn cs L a ccd cl).kindOf nN = some .local) (kT : (envX cn cs L a ccd cl).kindOf nT = some .local) (kJ : (envX cn cs L a ccd cl).kindOf nJ = some .local) (kA : (envX cn cs L a ccd cl).kindOf nA = some .globalImplicit)
  (e1 : (nN == ("__debug__" : Str)) = false) (e2 : (nT == ("__debug__" : Str)) = false) (e3 : (nJ == ("__debug__" : Str)) = false) (e4 : (nA == ("__debug__" : Str)) = false)
  (hf : nsIn (frag.heap_1 w.params) mainGlobals nA = some (some (.ref 21))) (hkp : keepIn (frag.heap_1 w.params) (.ref 21) = true)
  (hc1 : closureFor scope1 (envX cn cs L a ccd cl) = pure cc1) (hl1 : ∀ y ∈ scope1.names, y.2 ≠ .cell) (hd1 : scope1.kind = .function) (hm1 : ∀ y ∈ scope1.names, y.2 = .local → scope1.names.lookup y.1 = some .local) (hx1 : scope1.names.lookup xk1 = some .local) (hy1 : scope1.names.lookup xv1 = some .local) (hne1 : xk1 ≠ xv1)
  (hc2 : closureFor scope2 (envX cn cs L a ccd cl) = pure cc2) (hl2 : ∀ y ∈ scope2.names, y.2 ≠ .cell) (hd2 : scope2.kind = .function) (hm2 : ∀ y ∈ scope2.names, y.2 = .local → scope2.names.lookup y.1 = some .local) (hx2 : scope2.names.lookup xk2 = some .local) (hy2 : scope2.names.lookup xv2 = some .local) (hne2 : xk2 ≠ xv2)
  (f1 : (xk1 == ("__debug__" : Str)) = false) (f2 : (xv1 == ("__debug__" : Str)) = false) (f3 : (xk2 == ("__debug__" : Str)) = false) (f4 : (xv2 == ("__debug__" : Str)) = false)
  (hme1 : eval (.Call (.Attribute (.Name nJ q6) "items" q7) [] [] q8) (envX cn cs L a ccd cl) = (do
      let ov ← eval (.Name nJ q6) (envX cn cs L a ccd cl)
      standAt q7.atName
      let (f, first) ← holding [ov] (getMethod ov "items" pl1)
      callWith q8 f first (backTo q8 (starEach [] (envX cn cs L a ccd cl))) []))
  (hme2 : eval (.Call (.Attribute (.Name nJ r6) "items" r7) [] [] r8) (envX cn cs L a ccd cl) = (do
      let ov ← eval (.Name nJ r6) (envX cn cs L a ccd cl)
      standAt r7.atName
      let (f, first) ← holding [ov] (getMethod ov "items" pl2)
      callWith r8 f first (backTo r8 (starEach [] (envX cn cs L a ccd cl))) []))
  (hQ : ∀ j2 jo2 h' tk, Fr h₀ L h' (fun z => if z = nJ then some (.ref j2) else m z) → News h₀ L h' ((j2, jo2) :: rest) → (∀ p ∈ rest, p.1 < j2) → (j2 == sysModules) = false → IntD w jo2 (if rg i b = true then ringC c else c) → Q .next { s with heap := h', toks := tk }) :
  wpAny (model pr w) (ktrTop dp un gd cn cs L a ccd cl outer) (exec (.If (.Compare (.Name nN p1) [.NotEq] [.Name nT p2] p3) [.Assign [.Name nJ p4] (.Call (.Name nA p5) [
      .DictComp (.BinOp (.Name xk1 q1) .Add (.Constant (.int 2) k1 q2) q3) (.UnaryOp .USub (.Name xv1 q4) q5) [⟨.Tuple [.Name xk1 u1, .Name xv1 u2] k2 q9, .Call (.Attribute (.Name nJ q6) "items" q7) [] [] q8, [], 0⟩] scope1 pos1,
      .DictComp (.BinOp (.Name xk2 r1) .Sub (.Constant (.int 2) k3 r2) r3) (.UnaryOp .USub (.Name xv2 r4) r5) [⟨.Tuple [.Name xk2 v1, .Name xv2 v2] k4 r9, .Call (.Attribute (.Name nJ r6) "items" r7) [] [] r8, [], 0⟩] scope2 pos2] [] p6) p7] [] p8) (envX cn cs L a ccd cl)) Q E s := by
  have big := Top.nolimit T
  refine wpAny_If (wpAny_isTrue_Compare1 (nameX_L F hn (nameX_L F ht (ne_told hi (wpAny_truthy_bool ?_)) hk kT e2) hk kN e1))
  cases hrg : rg i b with
  | false =>
    rw [if_neg (by decide), execs_nil]
    rw [hrg] at hQ
    exact wpAny_pure (hQ jd jo _ _ (fr_same F hj) N hlt lo hI)
  | true =>
    rw [if_pos rfl, execs_cons]
    rw [hrg] at hQ
    refine wpAny_bind (wpAny_mono (Q := fun fl s' => fl = .next ∧ Q .next s') (wpAny_Assign_Name ?_) (fun fl s' h' => ?_) fun _ _ e => e)
    · refine Call_Name rfl (nameX_K F X (topRead_of T) hf ?_ hk kA e4)
      refine callWith_K X hkp (spliced_more ?_ (by rfl)) (by rfl) (by rfl)
      refine DictComp_itemsF (shN 2) F rfl hc1 hl1 hd1 hm1 hx1 hy1 hne1 ?_
      refine MethodCall_ (pl := pl1) ?_ hme1
      refine nameX_L F hj ?_ hk kJ e3
      refine items_end (shN 2) big F N (.head _) lo hI hl (ok_addN hd1 hx1 f1) (ok_neg hd1 hy1 f2) (mf := fun m _ => m) fun h1 D1 o1 h2 tk2 F2 N2 l2 lo2 I2 => ?_
      refine spliced_more ?_ (by rfl)
      refine DictComp_itemsF (shM 2) F2 rfl hc2 hl2 hd2 hm2 hx2 hy2 hne2 ?_
      refine MethodCall_ (pl := pl2) ?_ hme2
      refine nameX_L F2 hj ?_ hk kJ e3
      refine items_end (shM 2) big F2 N2 (.tail _ (.head _)) lo hI hl (ok_subN hd2 hx2 f3) (ok_neg hd2 hy2 f4) (mf := fun m _ => m) fun h3 D2 o2 h4 tk4 F4 N4 l4 lo4 I4 => ?_
      refine spliced_none ⟨X.keeps F4.keep, ?_⟩
      refine add_spec _ _ _ _ _ _ _ _ _ _ _ _ _ _ _ _ _ _ B F4 X N4 T hk _ _ _ _ (.tail _ (.head _)) (.head _) lo2 lo4 (by omega) (by omega) _ _ I2 I4 ?_ fun D5 o5 h5 tk5 F5 N5 l5 lo5 I5 => ?_
      · have e1 := pa_len (f := shN 2) (Nat.le_refl c.length)
        have e2 := pa_len (f := shM 2) (Nat.le_refl c.length)
        omega
      refine storeX_L F5 N5 (fun h6 F6 N6 => ⟨rfl, ?_⟩) hk kJ
      refine hQ D5 o5 h6 _ F6 (N6.perm fun p hp => ?_) (fun p hp => l5 p (.tail _ (.tail _ (.tail _ hp)))) lo5 I5
      rcases List.mem_cons.mp hp with rfl | hp
      · exact .head _
      · exact .tail _ (.tail _ (.tail _ (.tail _ hp)))
    · obtain ⟨rfl, h'⟩ := h'
      show wpAny _ _ (execs [] _) _ _ _
      rw [execs_nil]
      exact wpAny_pure h'
end Mine
end
section
open PySem PySem.W PyProof.Rows PySem.Calls PySem.Spec PyProof.V
set_option maxRecDepth 100000
set_option maxHeartbeats 8000000
namespace Mine
local macro_rules | `(tactic| walk_at $s:str) => `(tactic| k_extra $s)
local macro_rules | `(tactic| k_mem) => `(tactic| assumption)
local macro_rules | `(tactic| k_room) => `(tactic| ktr_room)
local macro_rules | `(tactic| k_all) => `(tactic| first | assumption | (intro p9 hp9; have h9 := NB.at (by assumption) hp9; (refine neN ?_); (try dsimp only); omega))
abbrev WordsAre (ys : List Value) (is : List Nat) : Prop := All2 (fun v i => ∃ t, v = Value.str (wS i) t) ys is
theorem upd_11 {m m₀ : Str → Option Value} {n1 n2 n3 n4 n5 n6 n7 n8 n9 n10 n11 : Str} {x1 x2 x3 x4 x5 x6 x7 x8 x9 x10 x11 : Option Value} (e1 : m n1 = x1) (e2 : m n2 = x2) (e3 : m n3 = x3) (e4 : m n4 = x4) (e5 : m n5 = x5) (e6 : m n6 = x6) (e7 : m n7 = x7) (e8 : m n8 = x8) (e9 : m n9 = x9) (e10 : m n10 = x10) (e11 : m n11 = x11) (h : ∀ z, z ≠ n1 → z ≠ n2 → z ≠ n3 → z ≠ n4 → z ≠ n5 → z ≠ n6 → z ≠ n7 → z ≠ n8 → z ≠ n9 → z ≠ n10 → z ≠ n11 → m z = m₀ z) :
    m = fun z => if z = n1 then x1 else if z = n2 then x2 else if z = n3 then x3 else if z = n4 then x4 else if z = n5 then x5 else if z = n6 then x6 else if z = n7 then x7 else if z = n8 then x8 else if z = n9 then x9 else if z = n10 then x10 else if z = n11 then x11 else m₀ z := by
  funext z
  by_cases h1 : z = n1
  · subst h1; simp only [if_true]; exact e1
  by_cases h2 : z = n2
  · subst h2; simp only [if_neg h1, if_true]; exact e2
  by_cases h3 : z = n3
  · subst h3; simp only [if_neg h1, if_neg h2, if_true]; exact e3
  by_cases h4 : z = n4
  · subst h4; simp only [if_neg h1, if_neg h2, if_neg h3, if_true]; exact e4
  by_cases h5 : z = n5
  · subst h5; simp only [if_neg h1, if_neg h2, if_neg h3, if_neg h4, if_true]; exact e5
  by_cases h6 : z = n6
  · subst h6; simp only [if_neg h1, if_neg h2, if_neg h3, if_neg h4, if_neg h5, if_true]; exact e6
  by_cases h7 : z = n7
  · subst h7; simp only [if_neg h1, if_neg h2, if_neg h3, if_neg h4, if_neg h5, if_neg h6, if_true]; exact e7
  by_cases h8 : z = n8
  · subst h8; simp only [if_neg h1, if_neg h2, if_neg h3, if_neg h4, if_neg h5, if_neg h6, if_neg h7, if_true]; exact e8
  by_cases h9 : z = n9
  · subst h9; simp only [if_neg h1, if_neg h2, if_neg h3, if_neg h4, if_neg h5, if_neg h6, if_neg h7, if_neg h8, if_true]; exact e9
  by_cases h10 : z = n10
  · subst h10; simp only [if_neg h1, if_neg h2, if_neg h3, if_neg h4, if_neg h5, if_neg h6, if_neg h7, if_neg h8, if_neg h9, if_true]; exact e10
  by_cases h11 : z = n11
  · subst h11; simp only [if_neg h1, if_neg h2, if_neg h3, if_neg h4, if_neg h5, if_neg h6, if_neg h7, if_neg h8, if_neg h9, if_neg h10, if_true]; exact e11
  simp only [if_neg h1, if_neg h2, if_neg h3, if_neg h4, if_neg h5, if_neg h6, if_neg h7, if_neg h8, if_neg h9, if_neg h10, if_neg h11]
  exact h z h1 h2 h3 h4 h5 h6 h7 h8 h9 h10 h11

theorem upd_7 {m m₀ : Str → Option Value} {n1 n2 n3 n4 n5 n6 n7 : Str} {x1 x2 x3 x4 x5 x6 x7 : Option Value} (e1 : m n1 = x1) (e2 : m n2 = x2) (e3 : m n3 = x3) (e4 : m n4 = x4) (e5 : m n5 = x5) (e6 : m n6 = x6) (e7 : m n7 = x7) (h : ∀ z, z ≠ n1 → z ≠ n2 → z ≠ n3 → z ≠ n4 → z ≠ n5 → z ≠ n6 → z ≠ n7 → m z = m₀ z) :
    m = fun z => if z = n1 then x1 else if z = n2 then x2 else if z = n3 then x3 else if z = n4 then x4 else if z = n5 then x5 else if z = n6 then x6 else if z = n7 then x7 else m₀ z := by
  funext z
  by_cases h1 : z = n1
  · subst h1; simp only [if_true]; exact e1
  by_cases h2 : z = n2
  · subst h2; simp only [if_neg h1, if_true]; exact e2
  by_cases h3 : z = n3
  · subst h3; simp only [if_neg h1, if_neg h2, if_true]; exact e3
  by_cases h4 : z = n4
  · subst h4; simp only [if_neg h1, if_neg h2, if_neg h3, if_true]; exact e4
  by_cases h5 : z = n5
  · subst h5; simp only [if_neg h1, if_neg h2, if_neg h3, if_neg h4, if_true]; exact e5
  by_cases h6 : z = n6
  · subst h6; simp only [if_neg h1, if_neg h2, if_neg h3, if_neg h4, if_neg h5, if_true]; exact e6
  by_cases h7 : z = n7
  · subst h7; simp only [if_neg h1, if_neg h2, if_neg h3, if_neg h4, if_neg h5, if_neg h6, if_true]; exact e7
  simp only [if_neg h1, if_neg h2, if_neg h3, if_neg h4, if_neg h5, if_neg h6, if_neg h7]
  exact h z h1 h2 h3 h4 h5 h6 h7

local macro_rules | `(tactic| walk_at "my.compK") => `(tactic| ((rename Fr _ _ _ _ => lF'); (rename News _ _ _ _ => lN'); (rename _ = Data.cell (some (Value.int (stOf _) _)) => lC'); (k_dflt (refine' DictComp_itemsK lC' ?F ?hh ?hc (by decide) (by rfl) (by decide) (by rfl) (by rfl) (by decide) ?_; (case F => exact lF'); (case hh => exact rfl); (case hc => with_unfolding_all rfl))); (k_dflt (refine' MethodCall_ ?_)); (k_dflt (refine' Subscript_ ?_)); (k_dflt (refine' nameX_L lF' (by rfl) ?_)); (k_dflt (refine' nameX_L lF' (by rfl) ?_)); (k_dflt (refine' tabd_item lN' (by k_mem) (by assumption) (by assumption) (by assumption) (by assumption) ?_)); intro a5 oa5 hm5 lo5 hd5; (k_dflt (refine' items_end (shK _) (Top.nolimit (by assumption)) lF' lN' (by k_mem) lo5 hd5 ?len ?key ?val ?_; (case len => assumption); (case key => exact ok_addC (by rfl) (by rfl) (by decide) (by rfl) (by rfl) (by k_mem) lC' (by decide)); (case val => exact ok_val (by rfl) (by rfl) (by decide)); k_whole)); clear lF' lN' lC'; intro h1 jd jo h' tk' F' N' l1 lo' hjd; (try k_lt l1); (try dsimp only)))
local macro_rules | `(tactic| walk_at "newTuple") => `(tactic| (k_here; k_dflt (refine' kup_newTuple ?F ?N ?_ ?z; (case F => k_asm); (case N => k_asm); (case z => kmk_size)); intro D' h' F' N' l1; (try k_lt l1); (try k_sweep)))
local macro_rules | `(tactic| walk_at "eval IfExp") => `(tactic| (k_here; (rename Fr _ _ _ _ => lF'); (first | (with_unfolding_all refine hook_eval lF' (by rfl) (by assumption) ?_) | (with_unfolding_all refine step_eval lF' (by rfl) (by assumption) ?_)); intro t' tk'; (try dsimp only)))
local macro_rules | `(tactic| walk_at "call builtin:len") => `(tactic| (k_here; (with_reducible show wpAny _ _ (call (Value.builtin "len") [Value.ref _]) _ _ _); (rename News _ _ _ _ => lN'); k_dflt (refine tabd_len (by exact lN') (by k_mem) (by assumption) (by assumption) (by assumption) ?_); intro t' tk'; (try dsimp only)))
theorem News.rotA {h₀ h : Heap} {L : Addr} {a b c d : Addr × Obj} {n : List (Addr × Obj)} (N : News h₀ L h (a :: b :: c :: d :: n)) : News h₀ L h (d :: c :: a :: b :: n) := N.perm fun p hp => by
  simp only [List.mem_cons] at hp ⊢
  rcases hp with h | h | h | h | h <;> simp [h]
theorem News.rotB {h₀ h : Heap} {L : Addr} {a b c d : Addr × Obj} {n : List (Addr × Obj)} (N : News h₀ L h (a :: b :: c :: d :: n)) : News h₀ L h (b :: c :: d :: a :: n) := N.perm fun p hp => by
  simp only [List.mem_cons] at hp ⊢
  rcases hp with h | h | h | h | h <;> simp [h]
theorem hide_post {M : Model} {A : Around} {α : Type} {t : Sem α} {Q : α → Shared → Prop} {E : Value → Shared → Prop} {s : Shared} (h : ∀ Q9 : α → Shared → Prop, (∀ v s, Q v s → Q9 v s) → wpAny M A t Q9 E s) : wpAny M A t Q E s := h Q fun _ _ x => x
theorem hide_body {M : Model} {A A' : Around} {α β : Type} {t : Sem α} {t2 : Sem β} {Q : β → Shared → Prop} {E E' : Value → Shared → Prop} {s : Shared} (h : ∀ Q9 : β → Shared → Prop, (∀ v s, Q v s → Q9 v s) → wpAny M A t (fun _ s₂ => wpAny M A' t2 Q9 E' s₂) E s) : wpAny M A t (fun _ s₂ => wpAny M A' t2 Q E' s₂) E s := h Q fun _ _ x => x
theorem unf_spec {w : World} {loose : List Str} {mean : ExcName → Option Value} {mg mb : Str → Option Value}
  {dp un : Nat} {gd : Option (List Code)} {cn : Str} {cs : Scope} {a : Addr} {ccd : Value} {cl : List (Str × Addr)} {outer : List Env} {A₀ : Around} {base h₀ : Heap} {L : Addr} {m : Str → Option Value} {news : List (Addr × Obj)} {s : Shared} {Q E : Value → Shared → Prop}
  {pb lx dd st : Nat} {x : Str} {t : Tok} {n : Nat} {ln : Int} {t1 t2 t3 t4 t5 t6 : Tok} {sg : List Nat}
  (B : Below A₀ base outer h₀) (F : Fr h₀ L s.heap m) (X : (frag.heap_1 w.params).In h₀) (N : News h₀ L s.heap ((pb, listOf #[] n) :: news)) (T : Top topProg loose mean mg mb h₀) (hk : cs.kind = .function)
  (hdp : dp + 16 < recursionLimit) (hun : un + 100 < cLine)
  (hdd : (dd, lexDict w ln st pb t1 t2 t3 t4 t5 t6) ∈ news) (hlx : (lx, instObj 66 dd) ∈ news) (hpb : ∀ p ∈ news, p.1 ≠ pb) (hdb : dd ≠ pb) (hlb : lx ≠ pb)
  (hsg : ∀ k ∈ sg, k ∈ [34, 92, 32, 10]) (hok : okU sg [(0, [(0, 1)])] = true) (hx : x = ⟨sg.toArray⟩)
  (hret : ∀ td ot h' tk' news', Fr h₀ L h' m → News h₀ L h' news' → (td, ot) ∈ news' → (∀ p ∈ news, p ∈ news') → (td == sysModules) = false → TabD w news' ot (unf sg [(0, [(0, 1)])]) → Q (.ref td) { s with heap := h', toks := tk' }) :
  wpAny (model PySem.Challenge.rw_qc0004_01.row.prog w) (ktrTop dp un gd cn cs L a ccd cl outer) (call (.ref 94) [.ref lx, .str x t]) Q E s := by
  w_strict (
    w_top off
    k_with_none
    k_with "execs cons" => (k_here; (rename Fr _ _ _ _ => lF'); (fail_if_success (with_reducible have h9 : Fr _ _ _ m9 := lF')); k_dflt (refine (let m9 : Str → Option Value := _; have F9 : Fr _ _ _ m9 := lF'; ?_)); clear lF')
    k_with "execs cons" => (k_here; with_reducible refine forget_toks ?_; intro tk9)
    k_with "exec If" => (k_here; (with_reducible show wpAny _ _ (exec (PySem.Stmt.If (PySem.Expr.Compare (PySem.Expr.Name (PySem.Str.ofString "name") _) _ _ _) _ _ _) _) _ _ _); (rename Fr _ _ _ _ => lF'); (rename News _ _ _ _ => lN'); k_dflt (refine ring_if (i := i) (b := bOf k) (c := joinC (stOf k) c5) (by k_asm) lF' (by k_asm) lN' (by k_asm) rfl (by ktr_room) (by ktr_units) hi5 (by rfl) (by rfl) (by rfl) hltJ (by assumption) (by assumption) (Nat.le_trans hlj (by decide)) (by rfl) (by rfl) (by rfl) (by rfl) (by decide) (by decide) (by decide) (by decide) (by k_is) (by k_is) (by with_unfolding_all rfl) (by decide) (by rfl) (by decide) (by rfl) (by rfl) (by decide) (by with_unfolding_all rfl) (by decide) (by rfl) (by decide) (by rfl) (by rfl) (by decide) (by decide) (by decide) (by decide) (by decide) (by with_unfolding_all rfl) (by with_unfolding_all rfl) ?_); clear lF' lN'; intro j2 jo2 h' tk' F' N' l1 lo2' hGain9; (k_dflt (replace hGain9 : IntD w jo2 (gain2 i (bOf k) (stOf k) c5) := hGain9)); (try k_lt l1); (try dsimp only))
    k_with "my.z" => (first | assumption | exact Nat.zero_le _)
    k_with "call ref" => ((k_here; k_dflt (show wpAny _ _ (call (Value.ref 63) [Value.ref _, Value.str _ _]) _ _ _); (rename Fr _ _ _ _ => lF'); (rename News _ _ _ _ => lN'); (k_dflt (refine push_U (news' := []) (by k_asm) (by exact lF') (by k_asm) (by exact lN') (by k_asm) (by rfl) (by ktr_room) (by ktr_units) (by k_mem) (by k_mem) (by k_updF) (by assumption) (by assumption) (by walk_at "my.z") ?_; k_whole)); clear lF' lN'; intro h' tk' n' F' N'; (try dsimp only at N')))
    k_with "call ref" => ((k_here; k_dflt (show wpAny _ _ (call (Value.ref 56) [Value.ref _]) _ _ _); (rename Fr _ _ _ _ => lF'); (rename News _ _ _ _ => lN'); (k_dflt (refine pop_U (by k_asm) (by exact lF') (by k_asm) (by exact lN') (by k_asm) (by rfl) (by ktr_room) (by ktr_units) (by k_mem) (by k_mem) (by k_upd) (by assumption) (by assumption) (by walk_at "my.z") ?_; k_whole)); clear lF' lN'; intro h' tk' F' N'; (try dsimp only at N')))
    k_with "call ref" => ((k_here; k_dflt (show wpAny _ _ (call (Value.ref 77) [_, _, _, _, _, _, _, _, _]) _ _ _); (rename Fr _ _ _ _ => lF'); (rename News _ _ _ _ => lN'); (k_dflt (refine rep_told (news' := []) (by k_asm) (by exact lF') (by k_asm) (by exact lN') (by k_asm) (by rfl) (by ktr_room) (by ktr_units) (by assumption) ?_; k_whole)); clear lF' lN'; intro t' h' tk' F' N'))
    k_with "call ref" => ((k_here; k_dflt (show wpAny _ _ (call (Value.ref 77) [_, _, _]) _ _ _); (rename Fr _ _ _ _ => lF'); (rename News _ _ _ _ => lN'); (k_dflt (refine rep_name (news' := []) (by k_asm) (by exact lF') (by k_asm) (by exact lN') (by k_asm) (by rfl) (by ktr_room) (by ktr_units) (by assumption) ?_; k_whole)); clear lF' lN'; intro t' h' tk' F' N'))
    k_with "my.compN" => (((rename Fr _ _ _ _ => lF'); (rename News _ _ _ _ => lN'); (k_dflt (refine DictComp_itemsF (shN 2) (by exact lF') (by exact rfl) (by with_unfolding_all rfl) (by decide) (by rfl) (by decide) (by rfl) (by rfl) (by decide) ?_)); (k_dflt (refine' MethodCall_ ?_)); (k_dflt (refine' nameX_L lF' (by rfl) ?_)); (k_dflt (refine items_end (shN 2) (Top.nolimit (by assumption)) lF' lN' (by k_mem) (by assumption) (by assumption) (by (first | assumption | exact pa_len (by assumption))) (by exact ok_addN (by rfl) (by rfl) (by decide)) (by exact ok_neg (by rfl) (by rfl) (by decide)) ?_; k_whole)); clear lF' lN'; intro h1 jd jo h' tk' F' N' l1 lo' hjd; (try k_lt l1); (try dsimp only)))
    k_with "my.compM" => (((rename Fr _ _ _ _ => lF'); (rename News _ _ _ _ => lN'); (k_dflt (refine DictComp_itemsF (shM 2) (by exact lF') (by exact rfl) (by with_unfolding_all rfl) (by decide) (by rfl) (by decide) (by rfl) (by rfl) (by decide) ?_)); (k_dflt (refine' MethodCall_ ?_)); (k_dflt (refine' nameX_L lF' (by rfl) ?_)); (k_dflt (refine items_end (shM 2) (Top.nolimit (by assumption)) lF' lN' (by k_mem) (by assumption) (by assumption) (by (first | assumption | exact pa_len (by assumption))) (by exact ok_subN (by rfl) (by rfl) (by decide)) (by exact ok_neg (by rfl) (by rfl) (by decide)) ?_; k_whole)); clear lF' lN'; intro h1 jd jo h' tk' F' N' l1 lo' hjd; (try k_lt l1); (try dsimp only)))
    k_with "eval DictComp" => ((k_here; first | walk_at "my.compN" | walk_at "my.compM" | walk_at "my.compK"))
    k_with "call ref" => ((k_here; k_dflt (show wpAny _ _ (call (Value.ref 21) [Value.ref _, Value.ref _]) _ _ _); (rename Fr _ _ _ _ => lF'); (rename News _ _ _ _ => lN'); (k_dflt (refine add_spec _ _ _ _ _ _ _ _ _ _ _ _ _ _ _ _ _ _ (by k_asm) (by exact lF') (by k_asm) (by exact lN') (by k_asm) (by rfl) _ _ _ _ (by k_mem) (by k_mem) (by assumption) (by assumption) (by ktr_room) (by ktr_units) _ _ (by assumption) (by assumption) (by (first | assumption | exact ring_len (by assumption))) ?_; k_whole)); clear lF' lN'; intro d' o' h' tk' F' N' l1 lo' hid'; (try k_lt l1); (try dsimp only at N')))
    k_with "my.sub" => (first | (intro p hp; simp only [List.mem_cons] at hp ⊢; simp [hp]; done) | (intro p hp; simp only [List.mem_cons] at hp ⊢; rcases hp with h | h <;> simp [h]; done))
    k_with "setItem ref str" => ((k_here; (rename Fr _ _ _ _ => lF'); (rename News _ _ _ _ => lN'); (k_dflt (refine tabd_set2 lF' lN' (by k_mem) (by k_updF) (by assumption) (by assumption) (by assumption) (by assumption) (by (first | assumption | exact intD_nil (by assumption))) ?_; k_whole)); clear lF' lN'; intro h' o' F' N' hT'; (try dsimp only at N')))
    k_with "my.tabsub" => ((k_here; (rename News _ _ _ _ => lN'); (k_dflt (refine tabd_item2 lN' (by k_mem) (by assumption) (by assumption) (by assumption) (by (first | assumption | exact lk_put (by assumption))) (by walk_at "my.sub") ?_; k_whole)); intro a5 oa5 hm5 lo5 hd5; (try dsimp only)))
    k_with "subscriptTail" => ((k_here; (with_reducible show wpAny _ _ (subscriptTail _ _ (Value.ref _) (Value.str (wS _) _)) _ _ _); walk_at "my.tabsub"))
    k_with "binaryOp Add str str" => ((k_here; k_dflt (refine add_word (by assumption) ?_); intro t' tk'; (try dsimp only)))
    k_with "compareOp NotEq str str" => ((k_here; k_dflt (refine ne_told (by assumption) ?_)))
    k_with "compareOp NotIn str ref" => ((k_here; (rename News _ _ _ _ => lN'); k_dflt (first | (refine tabd_notin_f lN' (by k_mem) (by assumption) (by assumption) (by assumption) (by assumption) (by assumption) ?_) | (refine tabd_notin_t lN' (by k_mem) (by assumption) (by assumption) (by assumption) (by assumption) (by assumption) ?_))))
    k_with "exec For Name Call cons nil" => (((rename Fr _ _ _ _ => lF'); (with_unfolding_all (refine' For_turns lF' ?_)); k_whole))
    revert X; k_fill; intro X
    refine wpAny_call ?_
    k_dflt (refine' code_defC ?k1 ?k2 ?k3 ?k4 ?k5 ?kA ?kF ?kK ?k6 ?k7 ?k8 ?k9 ?kB ?kD ?_ ?c2 ?c3 ?c4; (case kA => exact rfl); (case kF => exact rfl); (case kK => assumption); (case k1 => k_asm); (case k2 => k_asm); (case k3 => k_asm); (case k4 => k_asm); (case k5 => k_asm); (case k6 => k_is); (case k7 => k_is); (case k8 => ktr_room); (case k9 => exact BindsTo.of_eq rfl); (case kB => exact rfl); (case kD => decide +kernel); (case c2 => exact rfl); (case c3 => exact rfl); (case c4 => exact rfl); k_whole; intro g' L' h' tk' cells' FG' F' N' Y' B' X' T' l1; (have hNB : NB news L' := fun p hp => l1 p (.tail _ hp)); (have hLpb := ltN (a := pb) (b := L') (l1 (pb, _) (.head _))); clear l1; k_cells Y'; (try simp only [List.cons_append, List.nil_append] at N'); (try dsimp only); (try k_fold))
    k_steps
    rename Fr _ _ _ _ => F2
    rename News _ _ _ _ => N2
    subst hx
    have hks : (⟨sg.toArray⟩ : Str).cps.toList.map signItm = sg.map signItm := by simp
    with_unfolding_all (refine' For_turns F2 ?_)
    k_whole
    refine nameX_L F2 (by rfl) ?_
    refine iter_asciiTurns ?_ rfl F2 (News.rotA N2) ?_
    · have hall : ∀ k ∈ sg, k < 128 := fun k hk => by have := hsg k hk; simp at this; omega
      simpa using hall
    intro I lI
    have hI1 := ltN (b := I) (lI _ (.head _))
    have hI2 := ltN (b := I) (lI _ (.tail _ (.head _)))
    dsimp only at hI1 hI2
    rw [hks]
    obtain ⟨J1, kJ1⟩ : ∃ J : (Str → Option Value) → List (Addr × Obj) → List (Nat) → (Str → Option Value) → List (Addr × Obj) → Prop, ∀ m₀ n₀ r m nw, J m₀ n₀ r m nw ↔ (∃ (v1 v2 v3 v4 v5 v6 v7 v8 v9 v10 : Option Value) (td : Addr) (ot : Obj) (ys : List Value) (cnt : Nat) (oc : Obj) (v0 : Option Value) (bs : List (Addr × Obj)) (tb : Tab),
      m = (fun z => if z = Str.ofString "table" then some (.ref td) else if z = Str.ofString "sign" then v1 else if z = Str.ofString "hook" then v2 else if z = Str.ofString "grown" then v3 else if z = Str.ofString "turn" then v4 else if z = Str.ofString "word" then v5 else if z = Str.ofString "told" then v6 else if z = Str.ofString "name" then v7 else if z = Str.ofString "joined" then v8 else if z = Str.ofString "other" then v9 else if z = Str.ofString "gain" then v10 else m₀ z) ∧
      nw = (pb, listOf ys.toArray cnt) :: (L' + 1, oc) :: bs ∧ oc.data = .cell v0 ∧ WordsAre ys (ks tb) ∧ (td, ot) ∈ bs ∧ (td == sysModules) = false ∧ TabD w bs ot tb ∧ (∀ p ∈ news, p ∈ bs) ∧ (∀ p ∈ bs, p.1 ≠ pb) ∧ (∀ p ∈ bs, p.1 ≠ L' + 1) ∧ (∀ p ∈ bs, p.1 ≠ I) ∧ (∀ k ∈ r, k ∈ [34, 92, 32, 10]) ∧ okU r tb = true ∧ unf r tb = unf sg [(0, [(0, 1)])]) := ⟨fun _ _ _ _ _ => _, fun _ _ _ _ _ => Iff.rfl⟩
    refine items_ind (α := Nat) signItm J1 ?_ ?_ ?_
    · refine (kJ1 _ _ _ _ _).mpr ⟨_, _, _, _, _, _, _, _, _, _, _, _, _, _, _, _, _, [(0, [(0, 1)])], upd_11 rfl rfl rfl rfl rfl rfl rfl rfl rfl rfl rfl (fun _ _ _ _ _ _ _ _ _ _ _ _ => rfl), rfl, by assumption, .cons ⟨_, by rw [wS_0]⟩ .nil, .tail _ (.head _), by assumption, ?_, fun p hp => .tail _ (.tail _ hp), by k_all, by k_all, fun p hp => Nat.ne_of_lt (lI p (.tail _ (.tail _ hp))), hsg, hok, rfl⟩
      exact ⟨_, by assumption, .cons ⟨wS_0.symm, _, _, rfl, .head _, by assumption, _, by assumption, by assumption⟩ .nil⟩
    · intro k r m1 nw1 v h tk hj hv F1
      ktu_objs
      rename_i oI hcI N9
      k_dflt (refine hide_body fun Qa hQa => ?_)
      replace hj := (kJ1 _ _ _ _ _).mp hj
      obtain ⟨v1, v2, v3, v4, v5, v6, v7, v8, v9, v10, td, ot, ys, cnt, oc, v0, bs, tb, rfl, rfl, hoc, hys, htd, htl, hT, hsub, b1, b2, b3, hsg', hokr, hunf⟩ := hj
      obtain ⟨t1, rfl⟩ := hv
      have hk4 := hsg' k (.head _)
      have hsm : smallT tb = true := by unfold okU at hokr; simp only [Bool.and_eq_true] at hokr; exact hokr.1.1
      k_steps
      rename Fr _ _ _ _ => F3
      rename News _ _ _ _ => N3
      rename IsRange _ _ _ _ _ _ _ _ => hR3
      rename Obj.IsDictOf (PySem.strKind _ _) _ [] => hs3
      rename _ = Data.cell (some (Value.int (stOf k) _)) => hoc3
      rename_i h5 tk2 t2 tk3 h4 tk4 t5 tk5 h6 oc3 g3 h7 og3 lo3 fs3 hi3 fi3 l3 h8 F8 N8 t8 tk8 h9 tk9 ta ub vc keep3
      clear N9 N8 F8 F1
      try dsimp only at l3
      refine iter_rangeTurns (n := tb.length) (by have := smallT.len hsm; omega) hR3 rfl F3 (News.rotB N3) ?_
      intro I2 lI2
      have hJ1 := ltN (b := I2) (lI2 _ (.head _))
      have hJ2 := ltN (b := I2) (lI2 _ (.tail _ (.head _)))
      have hJ3 := ltN (b := I2) (lI2 _ (.tail _ (.tail _ (.head _))))
      have hJ4 := ltN (b := I2) (lI2 _ (.tail _ (.tail _ (.tail _ (.head _)))))
      try dsimp only at hJ1 hJ2 hJ3 hJ4
      have hgI := ltN l3.1
      have hgpb := ltN l3.2.1
      have hgL := ltN l3.2.2.1
      have hgbs := l3.2.2.2
      obtain ⟨J2, kJ2⟩ : ∃ J : (Str → Option Value) → List (Addr × Obj) → List (Nat) → (Str → Option Value) → List (Addr × Obj) → Prop, ∀ m₀ n₀ r m nw, J m₀ n₀ r m nw ↔ (∃ (v4 v5 v6 v7 v8 v9 v10 : Option Value) (ys : List Value) (cnt : Nat) (og : Obj) (b5 : List (Addr × Obj)) (todo : List Nat) (G : Tab),
        m = (fun z => if z = Str.ofString "turn" then v4 else if z = Str.ofString "word" then v5 else if z = Str.ofString "told" then v6 else if z = Str.ofString "name" then v7 else if z = Str.ofString "joined" then v8 else if z = Str.ofString "other" then v9 else if z = Str.ofString "gain" then v10 else m₀ z) ∧
        nw = (I, oI) :: (pb, listOf ys.toArray cnt) :: (L' + 1, oc3) :: (g3, og) :: b5 ∧ WordsAre ys (todo ++ ks G) ∧ TabD w b5 og G ∧ (∀ p ∈ bs, p ∈ b5) ∧ (∀ p ∈ b5, p.1 ≠ pb) ∧ (∀ p ∈ b5, p.1 ≠ L' + 1) ∧ (∀ p ∈ b5, p.1 ≠ I) ∧ (∀ p ∈ b5, p.1 ≠ I2) ∧ (∀ p ∈ b5, p.1 ≠ g3) ∧ r.length = todo.length ∧ todo.length ≤ 5 ∧ okR tb (bOf k) (stOf k) todo G = true ∧ todo.foldl (oneW tb (bOf k) (stOf k)) G = rnd tb (bOf k) (stOf k)) := ⟨fun _ _ _ _ _ => _, fun _ _ _ _ _ => Iff.rfl⟩
      refine items_ind (α := Nat) rangeItm J2 ?_ ?_ ?_
      · refine (kJ2 _ _ _ _ _).mpr ⟨_, _, _, _, _, _, _, _, _, _, _, ks tb, [], upd_7 rfl rfl rfl rfl rfl rfl rfl (fun _ _ _ _ _ _ _ _ => rfl), rfl, by rw [show ks tb ++ ks [] = ks tb from List.append_nil _]; exact hys, ⟨[], hs3, .nil⟩, fun p hp => hp, b1, b2, b3, fun p hp => Nat.ne_of_lt (lI2 p (.tail _ (.tail _ (.tail _ (.tail _ hp))))), fun p hp => Nat.ne_of_lt (kst_ltOf hgbs p hp), by simp [ks], by simp [ks]; exact smallT.len hsm, ?_, rfl⟩
        unfold okU at hokr; simp only [Bool.and_eq_true] at hokr; exact hokr.1.2
      · intro j r2 m2 nw2 v h tk hj hv F4
        ktu_objs
        rename_i oI2 hcI2 NI2
        k_dflt (refine hide_body fun Qb hQb => ?_)
        replace hj := (kJ2 _ _ _ _ _).mp hj
        obtain ⟨v4, v5, v6, v7, v8, v9, v10, ys, cnt, og, b5, todo, G, rfl, rfl, hys5, hG, hsub5, p1, p2, p3, p4, p5, hlen5, htd9, hok5, hfold5⟩ := hj
        obtain ⟨t9, rfl⟩ := hv
        clear hys
        cases todo with
        | nil => simp at hlen5
        | cons i todo =>
          cases hys5 with
          | @cons yv _ ys _ hy0 hys5 =>
            obtain ⟨ty, rfl⟩ := hy0
            have hdd5 := hsub5 _ (hsub _ hdd)
            have hlx5 := hsub5 _ (hsub _ hlx)
            have htd5 := hsub5 _ htd
            have hT5 := hT.mono hsub5
            clear hT
            obtain ⟨c5, hc5, hi5, hsg5, hok6, hone⟩ := okR_cons hok5
            have hb5 : (lk tb i).isSome = true := by rw [hc5]; rfl
            have hc5l := lk_len hsm hc5
            have hlc5 : c5.length ≤ 1000000 := Nat.le_trans hc5l (by decide)
            have hsG := okR_small hok5
            have hyl : ys.length ≤ 100 := by have h1 := hys5.length; have h2 := smallT.len hsG; simp [ks] at h1 htd9; omega
            have hl5 : ys.length ≤ 100000 := by omega
            k_steps
            clear NI2
            rename Fr _ _ _ _ => F6
            rename News _ _ _ _ => N6
            k_dflt (refine Assign_DictComp_items (h₀ := g') (shS (stOf k)) (by with_unfolding_all rfl) rfl (by with_unfolding_all rfl) (by decide) (by rfl) (by decide) (by rfl) (by rfl) (by decide) (by rfl) (by rfl) ?_)
            refine MethodCall_ ?_
            refine Subscript_ (nameX_L F6 (by rfl) (nameX_L F6 (by rfl) ?_))
            k_dflt (refine tabd_item N6 (by k_mem) hT5 hsm hi5 hc5 ?_)
            intro a5 oa5 hm5 lo5 hd5
            refine items_end (shS (stOf k)) (Top.nolimit (by assumption)) F6 N6 (by k_mem) lo5 hd5 hlc5 ?_ ?_ ?_
            · k_dflt (refine ok_subC (ca := L' + 1) (oc := oc3) (by rfl) (by rfl) (by decide) (by rfl) (by rfl) (by k_mem) hoc3 (by decide))
            · k_dflt (refine ok_val (by rfl) (by rfl) (by decide))
            intro h1 jd jo h' tk' F' N' l1 lo' hjd
            have hltJ := l1
            k_lt l1
            have hlj := pa_len (f := shS (stOf k)) hlc5
            clear F6 N6
            dsimp only
            k_steps
            all_goals (
              rename Fr _ _ _ _ => F7
              rename News _ _ _ _ => N7
              rename_i jk ko h3 tkk lok hjk l9 T1 h2 lT1 T2 h1x lT2 l7 h7 ll7
              first
                | refine iter_listTurns (vs := [Value.ref T1, Value.ref T2]) rfl F7 (News.rot8 N7) (.tail _ (.tail _ (.tail _ (.tail _ (.tail _ (.head _)))))) rfl rfl ?_
                | refine iter_listTurns (vs := [Value.ref T1, Value.ref T2]) rfl F7 (News.rot5 N7) (.tail _ (.tail _ (.tail _ (.tail _ (.tail _ (.head _)))))) rfl rfl ?_
              intro I3 lI3
              have e1 := ltN (b := I3) (lI3 _ (.head _))
              have e2 := ltN (b := I3) (lI3 _ (.tail _ (.head _)))
              have e3 := ltN (b := I3) (lI3 _ (.tail _ (.tail _ (.head _))))
              have e4 := ltN (b := I3) (lI3 _ (.tail _ (.tail _ (.tail _ (.head _)))))
              have e5 := ltN (b := I3) (lI3 _ (.tail _ (.tail _ (.tail _ (.tail _ (.head _))))))
              have e6 : ∀ p ∈ b5, p.1 ≠ I3 := fun p hp => Nat.ne_of_lt (lI3 p (by simp [hp]))
              try dsimp only at e1 e2 e3 e4 e5
              obtain ⟨J3, kJ3⟩ : ∃ J : (Str → Option Value) → List (Addr × Obj) → List (Value × Nat × List (Int × Int)) → (Str → Option Value) → List (Addr × Obj) → Prop, ∀ m₀ n₀ r m nw, J m₀ n₀ r m nw ↔ (∃ (v9 v10 : Option Value) (ys : List Value) (cnt : Nat) (og : Obj) (b6 : List (Addr × Obj)) (H : Tab),
                m = (fun z => if z = Str.ofString "other" then v9 else if z = Str.ofString "gain" then v10 else m₀ z) ∧
                nw = (I2, oI2) :: (I, oI) :: (pb, listOf ys.toArray cnt) :: (L' + 1, oc3) :: (g3, og) :: b6 ∧ WordsAre ys (todo ++ ks H) ∧ TabD w b6 og H ∧ (∀ p ∈ b5, p ∈ b6) ∧ (l7, listOf #[Value.ref T1, Value.ref T2] 0) ∈ b6 ∧
                (∀ p ∈ b6, p.1 ≠ pb) ∧ (∀ p ∈ b6, p.1 ≠ L' + 1) ∧ (∀ p ∈ b6, p.1 ≠ I) ∧ (∀ p ∈ b6, p.1 ≠ I2) ∧ (∀ p ∈ b6, p.1 ≠ g3) ∧ (∀ p ∈ b6, p.1 ≠ I3) ∧
                (∀ a ∈ r, ∃ (T : Addr) (tk : Tok) (d : Addr) (od : Obj), a.1 = Value.ref T ∧ (T, ({ cls := .type "tuple", data := .seq #[Value.str (wS a.2.1) tk, Value.ref d] } : Obj)) ∈ b6 ∧ (d, od) ∈ b6 ∧ (d == sysModules) = false ∧ IntD w od a.2.2) ∧
                okP (r.map (·.2)) H ∧ smallT H = true ∧ (r.map (·.2)).foldl (fun G p => grow G p.1 p.2) H = oneW tb (bOf k) (stOf k) G i) := ⟨fun _ _ _ _ _ => _, fun _ _ _ _ _ => Iff.rfl⟩
              k_dflt (refine items_two (β := Nat × List (Int × Int)) (i, gain1 (stOf k) c5) (nx i (bOf k), gain2 i (bOf k) (stOf k) c5) J3 ?_ ?_ ?_)
              · refine (kJ3 _ _ _ _ _).mpr ⟨_, _, ys, _, og, _, G, upd_2 rfl rfl (fun _ _ _ => rfl), rfl, hys5, hG.mono (fun p hp => by simp [hp]), fun p hp => by simp [hp], .head _, ?_, ?_, ?_, ?_, ?_, ?_, ?_, ⟨hsg5, hi5, Nat.le_trans (pa_len (Nat.le_refl _)) hlc5, by rw [← hone]; exact okR_small hok6, nx_lt hi5, gain2_len hc5l, trivial⟩, hsG, hone.symm⟩
                · k_all
                · k_all
                · k_all
                · k_all
                · k_all
                · first
                    | exact List.forall_mem_cons.mpr ⟨Nat.ne_of_lt (lI3 _ (by simp)), List.forall_mem_cons.mpr ⟨Nat.ne_of_lt (lI3 _ (by simp)), List.forall_mem_cons.mpr ⟨Nat.ne_of_lt (lI3 _ (by simp)), List.forall_mem_cons.mpr ⟨Nat.ne_of_lt (lI3 _ (by simp)), List.forall_mem_cons.mpr ⟨Nat.ne_of_lt (lI3 _ (by simp)), e6⟩⟩⟩⟩⟩
                    | exact List.forall_mem_cons.mpr ⟨Nat.ne_of_lt (lI3 _ (by simp)), List.forall_mem_cons.mpr ⟨Nat.ne_of_lt (lI3 _ (by simp)), List.forall_mem_cons.mpr ⟨Nat.ne_of_lt (lI3 _ (by simp)), List.forall_mem_cons.mpr ⟨Nat.ne_of_lt (lI3 _ (by simp)), List.forall_mem_cons.mpr ⟨Nat.ne_of_lt (lI3 _ (by simp)), List.forall_mem_cons.mpr ⟨Nat.ne_of_lt (lI3 _ (by simp)), List.forall_mem_cons.mpr ⟨Nat.ne_of_lt (lI3 _ (by simp)), List.forall_mem_cons.mpr ⟨Nat.ne_of_lt (lI3 _ (by simp)), e6⟩⟩⟩⟩⟩⟩⟩⟩
                · refine' List.forall_mem_cons.mpr ⟨⟨T1, _, jk, ko, rfl, .tail _ (.tail _ (.head _)), .tail _ (.tail _ (.tail _ (.head _))), lok, hjk⟩, List.forall_mem_cons.mpr ⟨⟨T2, _, _, _, rfl, .tail _ (.head _), ?m, ?l, ?d⟩, List.forall_mem_nil _⟩⟩
                  case d => (show IntD w _ (gain2 _ _ _ _); assumption)
                  case l => assumption
                  case m => simp
              · rintro ⟨av, i2, c2⟩ r3 m3 nw3 v h tk hj hv F8
                ktu_objs
                rename_i oI3 hcI3 NI3
                k_dflt (refine hide_body fun Qc hQc => ?_)
                replace hj := (kJ3 _ _ _ _ _).mp hj
                obtain ⟨v9, v10, ys7, cnt7, og7, b7, H, rfl, rfl, hy7, hT7, hsub7, hkeep7, q1, q2, q3, q4, q5, q6, hr7, hok7, hsH, hfold7⟩ := hj
                dsimp only at hv
                subst hv
                obtain ⟨T, tkT, dg, odg, hTe, hTm, hdm, hdl, hdi⟩ := hr7 _ (.head _)
                dsimp only at hTe hTm hdi
                subst hTe
                obtain ⟨hsg7, hi7, hlen7, hok8⟩ := hok7
                dsimp only at hsg7 hi7 hlen7
                have hr8 := fun a ha => hr7 a (.tail _ ha)
                have hdd7 := hsub7 _ hdd5
                have hlx7 := hsub7 _ hlx5
                have hyl7 : ys7.length ≤ 1000 := by have h1 := hy7.length; have h2 := smallT.len hsH; simp [ks] at h1 htd9; omega
                have hz1 : ([] : List (Int × Int)).length + c2.length ≤ 8000000 := by simp; omega
                cases hH : lk H i2 with
                | none =>
                  have hHf : (lk H i2).isSome = false := by rw [hH]; rfl
                  have hs2 := small_new hH hsg7
                  k_steps
                  rename Fr _ _ _ _ => F9
                  rename News _ _ _ _ => N9
                  rename TabD _ (_ :: _ :: _) _ _ => hT9
                  k_dflt (refine hQc _ _ ?_)
                  try dsimp only
                  refine ⟨_, _, _, _, rfl, F9, News.rotF2 N9, offI2 (by k_all), ⟨.tail _ (.tail _ (.tail _ (.tail _ (.tail _ (.tail _ (.tail _ hkeep7)))))), trivial⟩, (kJ3 _ _ _ _ _).mpr ⟨_, _, _, _, _, _, grow H i2 c2, upd_2 rfl rfl (fun z h1 h2 => by repeat first | with_reducible rfl | with_reducible refine (if_neg h1).trans ?_ | with_reducible refine (if_neg h2).trans ?_), rfl, ?_, by rw [← grow_new hH]; exact hT9, fun p hp => .tail _ (.tail _ (hsub7 p hp)), .tail _ (.tail _ hkeep7), by k_all, by k_all, by k_all, by k_all, by k_all, by k_all, ?_, hok8, hsg7, hfold7⟩⟩
                  · rw [ks_grow_new hH, ← List.append_assoc]; exact hy7.append (.cons ⟨_, rfl⟩ .nil)
                  · intro a ha
                    obtain ⟨T, tk, d, od, h1, h2, h3, h4, h5⟩ := hr8 a ha
                    exact ⟨T, tk, d, od, h1, .tail _ (.tail _ h2), .tail _ (.tail _ h3), h4, h5⟩
                | some d2 =>
                  have hHt : (lk H i2).isSome = true := by rw [hH]; rfl
                  have hz2 : d2.length + c2.length ≤ 8000000 := by have := lk_len hsH hH; omega
                  k_steps
                  rename Fr _ _ _ _ => F9
                  rename News _ _ _ _ => N9
                  rename TabD _ (_ :: _) _ _ => hT9
                  k_dflt (refine hQc _ _ ?_)
                  try dsimp only
                  refine ⟨_, _, _, _, rfl, F9, News.rotF1 N9, offI2 (by k_all), ⟨.tail _ (.tail _ (.tail _ (.tail _ (.tail _ (.tail _ hkeep7))))), trivial⟩, (kJ3 _ _ _ _ _).mpr ⟨_, _, _, _, _, _, grow H i2 c2, upd_2 rfl rfl (fun z h1 h2 => by repeat first | with_reducible rfl | with_reducible refine (if_neg h1).trans ?_ | with_reducible refine (if_neg h2).trans ?_), rfl, ?_, by rw [← grow_old hH]; exact hT9, fun p hp => .tail _ (hsub7 p hp), .tail _ hkeep7, by k_all, by k_all, by k_all, by k_all, by k_all, by k_all, ?_, hok8, hsg7, hfold7⟩⟩
                  · rw [ks_grow_old hH]; exact hy7
                  · intro a ha
                    obtain ⟨T, tk, d, od, h1, h2, h3, h4, h5⟩ := hr8 a ha
                    exact ⟨T, tk, d, od, h1, .tail _ h2, .tail _ h3, h4, h5⟩
              · intro m3 nw3 h tk hj F8 N8
                replace hj := (kJ3 _ _ _ _ _).mp hj
                obtain ⟨v9, v10, ys7, cnt7, og7, b7, H, rfl, rfl, hy7, hT7, hsub7, hkeep7, q1, q2, q3, q4, q5, q6, _, _, hsH, hfold7⟩ := hj
                dsimp only
                k_steps
                rename Fr _ _ _ _ => F9
                rename News _ _ _ _ => N9
                have hHe : H = oneW tb (bOf k) (stOf k) G i := hfold7
                k_dflt (refine hQb _ _ ?_)
                try dsimp only
                refine ⟨_, _, _, _, rfl, F9, N9, offI2 (by k_all), trivial, (kJ2 _ _ _ _ _).mpr ⟨_, _, _, _, _, _, _, ys7, cnt7, og7, b7, todo, H, upd_7 rfl rfl rfl rfl rfl rfl rfl (fun z h1 h2 h3 h4 h5 h6 h7 => by repeat first | with_reducible rfl | with_reducible refine (if_neg h1).trans ?_ | with_reducible refine (if_neg h2).trans ?_ | with_reducible refine (if_neg h3).trans ?_ | with_reducible refine (if_neg h4).trans ?_ | with_reducible refine (if_neg h5).trans ?_ | with_reducible refine (if_neg h6).trans ?_ | with_reducible refine (if_neg h7).trans ?_), rfl, hy7, hT7, fun p hp => hsub7 p (hsub5 p hp), q1, q2, q3, q4, q5, by simpa using hlen5, by simp at htd9; omega, by rw [hHe]; exact hok6, by rw [hHe]; exact hfold5⟩⟩)
      · intro m2 nw2 h tk hj F4 N4
        replace hj := (kJ2 _ _ _ _ _).mp hj
        obtain ⟨v4, v5, v6, v7, v8, v9, v10, ys, cnt, og, b5, todo, G, rfl, rfl, hys5, hG, hsub5, p1, p2, p3, p4, p5, hlen5, htd9, hok5, hfold5⟩ := hj
        dsimp only
        have htn : todo = [] := by cases todo with
          | nil => rfl
          | cons => simp at hlen5
        subst htn
        have hGe : G = rnd tb (bOf k) (stOf k) := hfold5
        have hokr2 : okU r (rnd tb (bOf k) (stOf k)) = true := by unfold okU at hokr; simp only [Bool.and_eq_true] at hokr; exact hokr.2
        k_steps
        rename Fr _ _ _ _ => F9
        rename News _ _ _ _ => N9
        k_dflt (refine hQa _ _ ?_)
        try dsimp only
        refine ⟨_, _, _, _, rfl, F9, N9, offI2 (by k_all), trivial, (kJ1 _ _ _ _ _).mpr ⟨_, _, _, _, _, _, _, _, _, _, g3, og, ys, cnt, oc3, _, (g3, og) :: b5, rnd tb (bOf k) (stOf k), upd_11 rfl rfl rfl rfl rfl rfl rfl rfl rfl rfl rfl (fun z h1 h2 h3 h4 h5 h6 h7 h8 h9 h10 h11 => by repeat first | with_reducible rfl | with_reducible refine (if_neg h1).trans ?_ | with_reducible refine (if_neg h2).trans ?_ | with_reducible refine (if_neg h3).trans ?_ | with_reducible refine (if_neg h4).trans ?_ | with_reducible refine (if_neg h5).trans ?_ | with_reducible refine (if_neg h6).trans ?_ | with_reducible refine (if_neg h7).trans ?_ | with_reducible refine (if_neg h8).trans ?_ | with_reducible refine (if_neg h9).trans ?_ | with_reducible refine (if_neg h10).trans ?_ | with_reducible refine (if_neg h11).trans ?_), rfl, hoc3, by rw [← hGe]; exact hys5, .head _, lo3, by rw [← hGe]; exact hG.mono (fun p hp => .tail _ hp), fun p hp => .tail _ (hsub5 p (hsub p hp)), by k_all, by k_all, by k_all, fun k' hk' => hsg' k' (.tail _ hk'), hokr2, hunf⟩⟩
    · intro m1 nw1 h tk hj F1 N1
      replace hj := (kJ1 _ _ _ _ _).mp hj
      obtain ⟨v1, v2, v3, v4, v5, v6, v7, v8, v9, v10, td, ot, ys, cnt, oc, v0, bs, tb, rfl, rfl, hoc, hys, htd, htl, hT, hsub, b1, b2, b3, hsg', hokr, hunf⟩ := hj
      dsimp only
      k_steps
      exact hret td ot _ _ bs (by k_asm) (cb_drop (by assumption) fun p hp => .tail _ (.tail _ hp)) htd hsub htl (hunf ▸ hT))
end Mine
end
section
open PySem PySem.W PyProof.Rows PySem.Calls PySem.Spec PyProof.V PyProof.Rows.LCg
set_option maxRecDepth 100000
namespace Mine
theorem News.rot79 {h₀ h : Heap} {L : Addr} {x0 x1 x2 x3 x4 x5 x6 x7 x8 x9 : Addr × Obj} {n : List (Addr × Obj)} (N : News h₀ L h (x0 :: x1 :: x2 :: x3 :: x4 :: x5 :: x6 :: x7 :: x8 :: x9 :: n)) : News h₀ L h (x9 :: x0 :: x1 :: x2 :: x3 :: x4 :: x5 :: x6 :: x7 :: x8 :: n) := N.perm fun p hp => by
  simp only [List.mem_cons] at hp ⊢
  rcases hp with h | h | h | h | h | h | h | h | h | h | h <;> simp [h]
theorem News.rotTok {h₀ h : Heap} {L : Addr} {x0 x1 x2 x3 x4 x5 x6 x7 x8 x9 : Addr × Obj} {n : List (Addr × Obj)} (N : News h₀ L h (x0 :: x1 :: x2 :: x3 :: x4 :: x5 :: x6 :: x7 :: x8 :: x9 :: n)) : News h₀ L h (x8 :: x2 :: x0 :: x1 :: x3 :: x4 :: x5 :: x6 :: x7 :: x9 :: n) := N.perm fun p hp => by
  simp only [List.mem_cons] at hp ⊢
  rcases hp with h | h | h | h | h | h | h | h | h | h | h <;> simp [h]
abbrev S4 : List Nat := [34, 92, 32, 10]
/-- what the two tokens and the line number of a written word are -/
def tokB (q : Bool) (W : List Nat) : Bool :=
  let ks := (wrS q W).cps.toList
  match tokOf ks 1 with
  | none => false
  | some (t1, r1, l1) => match tokOf r1 l1 with
    | none => false
    | some (t2, _, l2) => (ks.all fun k => decide (k ∈ [9, 10, 13, 32, 34, 92])) && t1 == Ls W && t2 == Str.ofString "" && decide (r1.length ≤ 100) && (r1.all fun k => decide (k ∈ [9, 10, 13, 32, 34, 92])) && decide (l2 = 1 + Txt.count (wrS q W) (Str.ofString "\n"))
def tb0 : Tab := [(0, [(0, 1)])]
def tabI (tb : Tab) (i : Nat) : List (Int × Int) := (lk tb i).getD []
def bq (n : Int) : Int := bp n.toNat
def polyC (c : List (Int × Int)) : Int := (c.map fun p => p.2 * bq (p.1 + 15)).sum
def okPoly (c : List (Int × Int)) : Bool := c.all fun p => decide (0 ≤ p.1 + 15) && decide (p.1 + 15 ≤ 100) && smI p.2
def shortC : List (List Nat) := [wc 0, wc 1, wc 2, wc 3, wc 4, [101, 102, 101]]
@[irreducible] def shortest (W : List Nat) : List Nat := ((shortC.filter fun w => mvL (Str.ofString "e") w == mvL (Str.ofString "\"\\") W).head?).getD []
@[irreducible] def aheadC (W : List Nat) : Int := (W.map stOf).sum
/-- the value of a word's table -/
@[irreducible] def pv (W : List Nat) (i : Nat) : Int := polyC (tabI (unf W tb0) i)
/-- an entry of the matrix -/
@[irreducible] def mx (W : List Nat) (i : Nat) : Int := match i with | 0 => (matL W (1, 0, 0, 1)).1 | 1 => (matL W (1, 0, 0, 1)).2.1 | 2 => (matL W (1, 0, 0, 1)).2.2.1 | _ => (matL W (1, 0, 0, 1)).2.2.2
abbrev ringI : Int := -bp 4 - 1
abbrev squareI : Int := bp 2
end Mine
end
section
open PySem PySem.W PyProof.Rows PySem.Calls PySem.Spec PyProof.V PyProof.Rows.LCg
set_option maxRecDepth 100000
namespace Mine
theorem NB.all {l : List (Addr × Obj)} {b : Nat} (h : NB l b) : ∀ p ∈ l, p.1 < b := h
theorem LexS.ofN {w : World} {h₀ h : Heap} {L : Addr} {x0 x1 : Addr × Obj} {news : List (Addr × Obj)} {lx dd dx rf cc st D cell : Nat} {u : Tok} {fdr fds : FuncData} {oc ocell : Obj} (_N : News h₀ L h (x0 :: x1 :: news))
  (hlx : (lx, instObj 66 dd) ∈ news) (hdx : (dx, dictOf [⟨PyData.keyHash w.params (Str.ofString "read"), .str (Str.ofString "read") u, .ref rf⟩] 1) ∈ news) (hst : (st, ({ cls := .type "function", dict := some dx, data := .func fds } : Obj)) ∈ news)
  (hrf : (rf, fnObj fdr) ∈ news) (hcc : (cc, oc) ∈ news) (hcell : (cell, ocell) ∈ news) (hD : ∀ p ∈ news, p.1 ≠ D) (hdd : ∀ p ∈ news, p.1 ≠ dd) (hDd : D ≠ dd) (hRd : RdSpec w rf cell D cc fdr ocell oc) :
  LexS w news lx dd dx rf cc st D cell u fdr fds oc ocell := ⟨hlx, hdx, hst, hrf, hcc, hcell, hD, hdd, hDd, hRd⟩
theorem strs_len : ∀ {ys : List Value} {zs : List Str}, StrsAre ys zs → ys.length = zs.length
  | _, _, .nil => rfl
  | _, _, .cons _ _ h => by simp [strs_len h]
theorem tok_facts {q : Bool} {W : List Nat} {ys : List Value} (hl : W.length = 5) (hA : ∀ q, tokB q W = true) (hs : StrsAre ys (signs (wrS q W))) : ∃ (ks r1 : List Nat) (l1 : Int) (r2 : List Nat) (l2 : Int), SgAre ys ks ∧ ys.length ≤ 100000 ∧ ks.length ≤ 100 ∧ okSigns ks ∧ tokOf ks 1 = some (Ls W, r1, l1) ∧ r1.length ≤ 100 ∧ okSigns r1 ∧ tokOf r1 l1 = some (Str.ofString "", r2, l2) ∧ l2 = 1 + Txt.count (wrS q W) (Str.ofString "\n") := by
  have h := hA q
  have hz := wrS_len (q := q) hl
  have hy : ys.length = (signs (wrS q W)).length := strs_len hs
  unfold tokB at h
  have hk : (wrS q W).cps.toList.length = (wrS q W).length := by rw [Array.length_toList]; rfl
  cases h1 : tokOf (wrS q W).cps.toList 1 with
  | none => simp [h1] at h
  | some v1 =>
    obtain ⟨t1, r1, l1⟩ := v1
    cases h2 : tokOf r1 l1 with
    | none => simp [h1, h2] at h
    | some v2 =>
      obtain ⟨t2, r2, l2⟩ := v2
      simp only [h1, h2, Bool.and_eq_true, beq_iff_eq, List.all_eq_true, decide_eq_true_eq] at h
      obtain ⟨⟨⟨⟨⟨a1, a2⟩, a3⟩, a4⟩, a5⟩, a6⟩ := h
      refine ⟨_, r1, l1, r2, l2, hs, ?_, ?_, a1, by rw [h1, a2], a4, a5, by rw [h2, a3], a6⟩
      · rw [hy]; simp [signs]; show (wrS q W).length ≤ _; omega
      · rw [hk]; omega
end Mine
namespace Mine
theorem strOk_4 {W : List Nat} (h : ∀ k ∈ W, k ∈ [34, 92, 32, 10]) (hl : W.length ≤ 100) : PyData.strOk (Ls W) = true := by
  have h2 : ∀ k ∈ W, k < 128 := fun k hk => by have := h k hk; simp at this; omega
  unfold PyData.strOk
  rw [Array.all_eq_true]
  intro i hi
  have := h2 _ (List.getElem_mem (by simpa using hi) : W[i] ∈ W)
  simp only [List.getElem_toArray]
  exact decide_eq_true (by omega)
theorem ne_read {prog : Program} {w : World} {A : Around} {E : Value → Shared → Prop} {s : Shared} {h₀ : Heap} {L a b : Addr} {news : List (Addr × Obj)} {W : List Nat} {t1 t2 t3 t4 : Tok} {n m : Nat} {Q : Value → Shared → Prop} (N : News h₀ L s.heap news) (ha : (a, listOf #[.str (Ls W) t1, .str (Str.ofString "") t2] n) ∈ news) (hb : (b, listOf #[.str (Ls W) t3, .str (Str.ofString "") t4] m) ∈ news)
    (h4 : ∀ k ∈ W, k ∈ [34, 92, 32, 10]) (hl : W.length ≤ 100) (hu : A.units + 64 < cLine) (h : Q (.bool false) s) : wpAny (model prog w) A (compareOp .NotEq (.ref a) (.ref b)) Q E s := by
  have ok := strOk_4 h4 hl
  have D : ∀ u v, DatAll news [Value.str (Ls W) u, Value.str (Str.ofString "") v] [Dat.str (Ls W), Dat.str (Str.ofString "")] := fun u v => .cons (.str _ _) (.cons (.str _ _) .nil)
  have k : ∀ d ∈ [Dat.str (Ls W), Dat.str (Str.ofString "")], kqdOk 8 d = true := by
    intro d hd
    simp only [List.mem_cons, List.not_mem_nil, or_false] at hd
    rcases hd with rfl | rfl
    · exact ok
    · decide +kernel
  exact kqd_ne N ha rfl rfl (D _ _) (fun _ h => h) hb rfl rfl (D _ _) (fun _ h => h) k k hu (by simpa using h)
end Mine
end
section
open PySem PySem.W PyProof.Rows PySem.Calls PySem.Spec PyProof.V PyProof.Rows.LCg
set_option maxRecDepth 100000
namespace Mine
/-- an object that is no cell -/
theorem intD_noCell {w : World} {o : Obj} {c : List (Int × Int)} (h : IntD w o c) (v : Option Value) : o.data ≠ .cell v := by
  obtain ⟨kvs, ⟨es, ep, _, hd, _⟩, _⟩ := h
  rw [hd]; intro e; cases e
theorem tabD_noCell {w : World} {news : List (Addr × Obj)} {o : Obj} {t : Tab} (h : TabD w news o t) (v : Option Value) : o.data ≠ .cell v := by
  obtain ⟨kvs, ⟨es, ep, _, hd, _⟩, _⟩ := h
  rw [hd]; intro e; cases e
def offC (cs : List Nat) (l : List (Addr × Obj)) : List (Addr × Obj) := l.filter fun p => !cs.contains p.1
theorem offC_ne {cs : List Nat} {l : List (Addr × Obj)} {c : Nat} (hc : c ∈ cs) : ∀ p ∈ offC cs l, p.1 ≠ c := by
  intro p hp e
  have := (List.mem_filter.mp hp).2
  rw [e] at this
  simp [hc] at this
theorem offC_mem {cs : List Nat} {l : List (Addr × Obj)} {p : Addr × Obj} (hp : p ∈ l) (h : ∀ c ∈ cs, p.1 ≠ c) : p ∈ offC cs l := by
  refine List.mem_filter.mpr ⟨hp, ?_⟩
  simp only [Bool.not_eq_true', List.contains_eq_mem, decide_eq_false_iff_not]
  exact fun hm => h _ hm rfl
theorem off_cell {h₀ h : Heap} {L : Addr} {news : List (Addr × Obj)} {a c : Nat} {oa oc : Obj} {v : Option Value} (N : News h₀ L h news) (ha : (a, oa) ∈ news) (hc : (c, oc) ∈ news) (hd : oc.data = .cell v) (hn : ∀ v, oa.data ≠ .cell v) : a ≠ c := by
  intro e
  subst e
  have h1 := (N _ ha).1
  have h2 := (N _ hc).1
  have : oa = oc := Option.some.inj (h1.symm.trans h2)
  exact hn v (this ▸ hd)
theorem TabD.offC {w : World} {h₀ h : Heap} {L : Addr} {news : List (Addr × Obj)} {o : Obj} {t : Tab} {cs : List Nat} (N : News h₀ L h news) (T : TabD w news o t) (hcs : ∀ c ∈ cs, ∃ oc v, (c, oc) ∈ news ∧ oc.data = Data.cell v) : TabD w (Mine.offC cs news) o t := by
  obtain ⟨kvs, hd, ha⟩ := T
  refine ⟨kvs, hd, ha.mono fun kv p hp => ?_⟩
  obtain ⟨e, a, oa, h1, h2, h3, h4⟩ := hp
  exact ⟨e, a, oa, h1, offC_mem h2 fun c hc => by obtain ⟨oc, v, m, d⟩ := hcs c hc; exact off_cell N h2 m d (intD_noCell h4), h3, h4⟩

theorem unf_cells {w : World} {loose : List Str} {mean : ExcName → Option Value} {mg mb : Str → Option Value}
  {dp un : Nat} {gd : Option (List Code)} {cn : Str} {cs : Scope} {a : Addr} {ccd : Value} {cl : List (Str × Addr)} {outer : List Env} {A₀ : Around} {base h₀ : Heap} {L : Addr} {m : Str → Option Value} {news : List (Addr × Obj)} {s : Shared} {Q E : Value → Shared → Prop}
  {pb lx dd st : Nat} {t : Tok} {n : Nat} {ln : Int} {t1 t2 t3 t4 t5 t6 : Tok} {sg : List Nat} {c1 c2 c3 c4 c5 c6 : Nat} {o1 o2 o3 o4 o5 o6 : Obj} {v1 v2 v3 v4 v5 v6 : Option Value}
  (B : Below A₀ base outer h₀) (F : Fr h₀ L s.heap m) (X : (frag.heap_1 w.params).In h₀) (N : News h₀ L s.heap ((pb, listOf #[] n) :: news)) (T : Top topProg loose mean mg mb h₀) (hk : cs.kind = .function)
  (hdp : dp + 16 < recursionLimit) (hun : un + 100 < cLine)
  (hlx : (lx, instObj 66 dd) ∈ news) (hdd : (dd, lexDict w ln st pb t1 t2 t3 t4 t5 t6) ∈ news) (hpb : ∀ p ∈ news, p.1 ≠ pb) (hdb : dd ≠ pb) (hlb : lx ≠ pb)
  (hsg : ∀ k ∈ sg, k ∈ [34, 92, 32, 10]) (hok : okU sg tb0 = true)
  (m1 : (c1, o1) ∈ news) (m2 : (c2, o2) ∈ news) (m3 : (c3, o3) ∈ news) (m4 : (c4, o4) ∈ news) (m5 : (c5, o5) ∈ news) (m6 : (c6, o6) ∈ news)
  {tps : Array Value} (m7 : (79, tabObj tps) ∈ news)
  (d1 : o1.data = .cell v1) (d2 : o2.data = .cell v2) (d3 : o3.data = .cell v3) (d4 : o4.data = .cell v4) (d5 : o5.data = .cell v5) (d6 : o6.data = .cell v6)
  (hret : ∀ td ot h' tk' fl, Fr h₀ L h' m → News h₀ L h' ((c6, o6) :: (c5, o5) :: (c4, o4) :: (c3, o3) :: (c2, o2) :: (c1, o1) :: fl) → (td, ot) ∈ fl → (79, tabObj tps) ∈ fl → (td == sysModules) = false → TabD w fl ot (unf sg tb0) →
    (∀ p ∈ fl, p.1 ≠ c1) → (∀ p ∈ fl, p.1 ≠ c2) → (∀ p ∈ fl, p.1 ≠ c3) → (∀ p ∈ fl, p.1 ≠ c4) → (∀ p ∈ fl, p.1 ≠ c5) → (∀ p ∈ fl, p.1 ≠ c6) → Q (.ref td) { s with heap := h', toks := tk' }) :
  wpAny (model PySem.Challenge.rw_qc0004_01.row.prog w) (ktrTop dp un gd cn cs L a ccd cl outer) (call (.ref 94) [.ref lx, .str (Ls sg) t]) Q E s := by
  refine unf_spec B F X N T hk hdp hun hdd hlx hpb hdb hlb hsg hok rfl fun td ot h' tk' news' F' N' hm hs lo hT => ?_
  have hcs : ∀ c ∈ [c1, c2, c3, c4, c5, c6], ∃ oc v, (c, oc) ∈ news' ∧ oc.data = Data.cell v := by
    intro c hc
    simp only [List.mem_cons, List.not_mem_nil, or_false] at hc
    rcases hc with rfl | rfl | rfl | rfl | rfl | rfl
    · exact ⟨_, _, hs _ m1, d1⟩
    · exact ⟨_, _, hs _ m2, d2⟩
    · exact ⟨_, _, hs _ m3, d3⟩
    · exact ⟨_, _, hs _ m4, d4⟩
    · exact ⟨_, _, hs _ m5, d5⟩
    · exact ⟨_, _, hs _ m6, d6⟩
  refine hret td ot h' tk' (offC [c1, c2, c3, c4, c5, c6] news') F' (N'.perm fun p hp => ?_) (offC_mem hm fun c hc => by obtain ⟨oc, v, m, d⟩ := hcs c hc; exact off_cell N' hm m d (tabD_noCell hT)) (offC_mem (hs _ m7) fun c hc => by obtain ⟨oc, v, m, d⟩ := hcs c hc; exact off_cell N' (hs _ m7) m d fun v e => by cases e) lo (hT.offC N' hcs)
    (offC_ne (by simp)) (offC_ne (by simp)) (offC_ne (by simp)) (offC_ne (by simp)) (offC_ne (by simp)) (offC_ne (by simp))
  simp only [List.mem_cons] at hp
  rcases hp with rfl | rfl | rfl | rfl | rfl | rfl | hp
  · exact hs _ m6
  · exact hs _ m5
  · exact hs _ m4
  · exact hs _ m3
  · exact hs _ m2
  · exact hs _ m1
  · exact (List.mem_filter.mp hp).1
end Mine
end
section
open PySem PySem.W PyProof.Rows PySem.Calls PySem.Spec PyProof.V PyProof.Rows.LCg PyProof.Rows.LCt
set_option maxRecDepth 100000
namespace Mine
section
variable {prog : Program} {w : World} {A : Around} {E : Value → Shared → Prop} {s : Shared} {h₀ : Heap} {L : Addr} {m : Str → Option Value} {env : Env} {K : Type} [DecidableEq K] {knd : KeyKind prog w K}
theorem ListComp_TK {ct elt iter : PySem.Expr} {x : Str} {px : Pos} {scope : Scope} {cl : List (Str × Addr)} {pos : Pos} {Q : Value → Shared → Prop} (_F₀ : Fr h₀ L s.heap m)
    (hclos : closureFor scope env = pure cl) (hcell : ∀ y ∈ scope.names, y.2 ≠ .cell) (hkind : scope.kind = .function)
    (hnames : ∀ y ∈ scope.names, y.2 = .local → scope.names.lookup y.1 = some .local) (hx : scope.names.lookup x = some .local)
    (h : wpAny (model prog w) A (eval iter env) (fun xv s₁ => ∃ d od kvs news, xv = .ref d ∧ A.handled = none ∧ Fr h₀ L s₁.heap m ∧ News h₀ L s₁.heap news ∧ (d, od) ∈ news ∧ od.IsDictOf knd kvs ∧ (d == sysModules) = false ∧ kvs.length ≤ sizeLine ∧
      ∀ s₂ : Shared, (∃ h, s₂ = { s₁ with heap := h }) → CompRestT prog w A h₀ L m env ct elt x scope cl s₂ (fun nw => (d, od) ∈ nw) (fun i v => ∃ k y, kvs[i]? = some (k, y) ∧ knd.is k v = true) (FinE h₀ L m s₂ Q) kvs.length 0 [] news) E s)
    (hs : ∀ x, foldedSetIterable iter env x = pure x := by intro _; rfl) :
    wpAny (model prog w) A (eval (.ListComp elt [⟨.Name x px, iter, [ct], 0⟩] scope pos) env) Q E s := by
  rw [eval_ListComp]
  refine wpAny_comprehension_free (use := none) rfl hs hclos hkind hnames (wpAny_mono h (fun xv s₁ h₁ => ?_) fun _ _ e => e)
  obtain ⟨d, od, kvs, news, rfl, hh, F, N, hm, hd, lo, hsz, R⟩ := h₁
  obtain ⟨ep, hat₀⟩ := KdkAt.of hd
  have hat := hat₀.dictAt (N _ hm).1
  have hlt : d < s₁.heap.objs.size := Heap.lt_size (N _ hm).1
  have hne : d ≠ s₁.heap.objs.size := Nat.ne_of_lt hlt
  refine wpAny_pyIter_dict lo hat ?_
  refine block_T (Walks.dictKeys (knd := knd) hh s₁.heap.objs.size d hne kvs ep) hsz (fun i h st => by obtain ⟨o, e, _⟩ := st.1; exact ⟨o, e⟩)
    (fun i h h' o nw st e e' k N' S => ⟨by obtain ⟨o', q, r⟩ := st.1; rw [e] at q; cases q; exact ⟨o, e', r⟩, hat₀.dictAt (N' _ S).1⟩)
    hcell hkind hx ⟨⟨_, Heap.get?_push_size _ rfl, rfl, rfl⟩, hat.push _⟩ (fun b hb => ?_)
    (F.push _) (fun p hp => ⟨Heap.get?_push_of_some _ (N p hp).1, (N p hp).2⟩) (Nat.ne_of_lt F.ns.lt) (next_is_new F) (fun p hp => Nat.ne_of_lt (Heap.lt_size (N p hp).1)) hm (R _ ⟨_, rfl⟩) ?_
  · show b < (s₁.heap.push _).objs.size
    rw [Heap.size_push]
    rcases List.mem_cons.mp hb with rfl | hb
    · exact Nat.lt_succ_self _
    · rw [List.mem_singleton.mp hb]; exact Nat.lt_succ_of_lt hlt
  · intro D C h tk m' ys news' F' N' o1 hn hC₀ hD₀ hCL hDL hCD offC fin
    refine ⟨m', hn, fun h'' hs'' => fin D h'' tk (F'.change hs'' hCL hC₀) (fun p hp => ?_) o1⟩
    refine ⟨hs''.extBut _ _ ?_ (N' p hp).1, (N' p hp).2⟩
    rcases List.mem_cons.mp hp with rfl | hp
    · exact Ne.symm hCD
    · exact offC p hp
end
end Mine
end
section
open PySem PySem.W PyProof.Rows PySem.Calls PySem.Spec PyProof.V PyProof.Rows.LCg PyProof.Rows.LCt
set_option maxRecDepth 100000
namespace Mine
theorem all2_left {α β : Type} {R : α → β → Prop} {as : List α} {bs : List β} (h : All2 R as bs) : ∀ a ∈ as, ∃ b ∈ bs, R a b := by
  induction h with
  | nil => intro a ha; cases ha
  | cons h _ ih =>
    intro a ha
    rcases List.mem_cons.mp ha with rfl | ha
    · exact ⟨_, .head _, h⟩
    · obtain ⟨b, hb, hr⟩ := ih a ha
      exact ⟨b, .tail _ hb, hr⟩
abbrev nmS : List Str := [Str.ofString "", Str.ofString "e", Str.ofString "f", Str.ofString "ef", Str.ofString "fe"]
theorem wS_nm {i : Nat} (hi : i < 5) : nmS.any (· == wS i) = true := by
  have : ∀ i < 5, nmS.any (· == wS i) = true := by decide +kernel
  exact this i hi
section
variable {w : World} {A : Around} {E : Value → Shared → Prop} {s : Shared} {h₀ : Heap} {L : Addr} {m : Str → Option Value} {env : Env} {news : List (Addr × Obj)}
/-- [x for x in table if x not in names]: none -/
theorem comp_odd {elt iter : PySem.Expr} {x nm : Str} {px p1 p2 p3 : Pos} {scope : Scope} {cc : List (Str × Addr)} {pos : Pos} {Q : Value → Shared → Prop} {td nl c : Nat} {ot oc : Obj} {tb : Tab} {ys : List Value}
    {n : Nat} {fl : List (Addr × Obj)} (F : Fr h₀ L s.heap m) (N : News h₀ L s.heap news) (hh : A.handled = none) (hclos : closureFor scope env = pure cc) (hcell : ∀ y ∈ scope.names, y.2 ≠ .cell)
    (hkind : scope.kind = .function) (hnames : ∀ y ∈ scope.names, y.2 = .local → scope.names.lookup y.1 = some .local) (hx : scope.names.lookup x = some .local)
    (hn : (relabel scope env).names.lookup nm = some .cell) (hc : cc.lookup nm = some c) (hcm : (c, oc) ∈ news) (hcd : oc.data = .cell (some (.ref nl)))
    (hit : ∀ (Q : Value → Shared → Prop) (E' : Value → Shared → Prop), Q (.ref td) s → wpAny (model pr w) A (eval iter env) Q E' s) (hm : (td, ot) ∈ news) (lo : (td == sysModules) = false)
    (T : TabD w fl ot tb) (hs : smallT tb = true) (hnl : (nl, listOf ys.toArray n) ∈ news) (hys : StrsAre ys nmS)
    (hQ : ∀ D k h' tk, Fr h₀ L h' m → News h₀ L h' ((D, listOf #[] k) :: news) → Off1 D news → Q (.ref D) { s with heap := h', toks := tk }) (d1 : (x == ("__debug__" : Str)) = false)
    (d2 : (nm == ("__debug__" : Str)) = false) (hfs : ∀ x, foldedSetIterable iter env x = pure x := by intro _; rfl) :
    wpAny (model pr w) A (eval (.ListComp elt [⟨.Name x px, iter, [.Compare (.Name x p1) [.NotIn] [.Name nm p2] p3], 0⟩] scope pos) env) Q E s := by
  obtain ⟨kvs, hkd, ha⟩ := T
  have hkl := ha.length
  have hlen := smallT.len hs
  refine ListComp_TK (knd := PySem.strKind pr w) F hclos hcell hkind hnames hx (hit _ _ ⟨td, ot, kvs, news, rfl, hh, F, N, hm, hkd, lo, by rw [sizeLine_eq]; omega, ?_⟩) hfs
  rintro s₂ ⟨hp, rfl⟩
  refine compT_ind (α := Str × Value) kvs (fun p v => ∃ t, v = .str p.1 t) rfl ?_ (fun r ys nw => nw = news ∧ ys = [] ∧ ∀ p ∈ r, p ∈ kvs) ?_ ?_ ⟨rfl, rfl, fun _ h => h⟩
  · rintro i v ⟨k, y, hk, hv⟩
    exact ⟨(k, y), hk, Value.isStrOf_shape hv⟩
  · rintro p r zs nw v I oI C oC D m₂ h tk E' ⟨rfl, rfl, hr⟩ ⟨t, rfl⟩ hC hx2 F3 N3 off ne
    obtain ⟨q, hq, he⟩ := all2_left ha p (hr p (.head _))
    have hi := smallT.key hs hq
    have up : ∀ z ∈ nw, h.get? z.1 = some z.2 := fun z hz => (N3 _ (.tail _ (.tail _ (.tail _ hz)))).1
    refine wpAny_isTrue_Compare1 (wpAny_Name (wpAny_loadName_local (env := compEnvC scope cc C env) hkind (lookup_relabel_local hx) (hC.ns (N3 _ (.tail _ (.head _))).1) hx2 (wpAny_Name (wpAny_loadName_cell (env := compEnvC scope cc C env) hkind hn hc ⟨oc, up _ hcm, hcd⟩ ?_) d2)) d1)
    have hl : h.IsList nl ys.toArray := ⟨_, up _ hnl, rfl, _, rfl⟩
    refine notin_list_strs hl hys (wpAny_truthy_bool ?_)
    rw [he.1, wS_nm hi]
    simp only [Bool.not_true, Bool.false_eq_true, if_false]
    exact ⟨h, tk, nw, rfl, F3, N3, off, hm, rfl, trivial, fun p hp => hr p (.tail _ hp)⟩
  · rintro zs nw ⟨rfl, rfl, _⟩ D h tk F3 N3 o1
    exact hQ D _ h tk F3 N3 o1
end
end Mine
namespace Mine
theorem okU_small : ∀ {l : List Nat} {tb : Tab}, okU l tb = true → smallT (unf l tb) = true
  | [], _, h => h
  | k :: r, tb, h => by
    unfold okU at h
    simp only [Bool.and_eq_true] at h
    exact okU_small (l := r) h.2
end Mine
namespace Mine
/-- the pure facts of a word, behind a name: an assumption line must not unfold them -/
structure PureOk (W : List Nat) : Prop where
  tok : ∀ q, tokB q W = true
  u : okU W tb0 = true
  m : okM W (1, 0, 0, 1) = true
  ne : (shortC.filter fun w => mvL (Str.ofString "e") w == mvL (Str.ofString "\"\\") W).isEmpty = false
  cnt : ∀ i < 5, sumC (tabI (unf W tb0) i) = if (partP (wc i) (shortest W)).isEmpty then 1 else 0
  poly : ∀ i < 5, okPoly (tabI (unf W tb0) i) = true
  len : ∀ i < 5, (tabI (unf W tb0) i).length ≤ 1000
  smp : ∀ i < 5, smI (pv W i) = true
  ah0 : 0 ≤ 15 + aheadC W
  ah1 : 15 + aheadC W ≤ 100
  non : pv W 0 = bq (15 + aheadC W)
  sm1 : smI (mx W 0) = true
  sm2 : smI (mx W 1) = true
  sm3 : smI (mx W 2) = true
  sm4 : smI (mx W 3) = true
  sm5 : smI (pv W 0 + pv W 3) = true
  sm6 : smI (pv W 0 + pv W 4) = true
  eq1 : squareI * mx W 0 = squareI * (pv W 0 + pv W 3) + ringI * pv W 1
  eq2 : squareI * mx W 1 = squareI * pv W 1 + ringI * pv W 3
  eq3 : squareI * mx W 2 = squareI * pv W 2 + ringI * pv W 4
  eq4 : squareI * mx W 3 = squareI * (pv W 0 + pv W 4) + ringI * pv W 2
theorem PureOk.sm {W : List Nat} (h : PureOk W) : smallT (unf W tb0) = true := okU_small h.u
end Mine
end
section
open PySem PySem.W PyProof.Rows PySem.Calls PySem.Spec PyProof.V PyProof.Rows.LCg PyProof.Rows.LCt
set_option maxRecDepth 100000
namespace Mine
theorem nm_wS : nmS = [0, 1, 2, 3, 4].map wS := by decide +kernel
/-- a value that is a table's row -/
def RowV (w : World) (nw : List (Addr × Obj)) (tb : Tab) (v : Value) (i : Nat) : Prop := ∃ a oa, v = Value.ref a ∧ (a, oa) ∈ nw ∧ (a == sysModules) = false ∧ IntD w oa (tabI tb i)
theorem RowV.mono {w : World} {nw nw' : List (Addr × Obj)} {tb : Tab} {v : Value} {i : Nat} (hs : ∀ p ∈ nw, p ∈ nw') (h : RowV w nw tb v i) : RowV w nw' tb v i := by
  obtain ⟨a, oa, h1, h2, h3⟩ := h
  exact ⟨a, oa, h1, hs _ h2, h3⟩
section
variable {w : World} {A : Around} {E : Value → Shared → Prop} {s : Shared} {h₀ : Heap} {L : Addr} {m : Str → Option Value} {env : Env} {news : List (Addr × Obj)}
theorem tabs_elt {x tn : Str} {p1 p2 p3 p4 p5 p6 p7 p8 : Pos} {scope : Scope} {cc : List (Str × Addr)} {td c : Nat} {ot oc : Obj} {tb : Tab} {fl nw : List (Addr × Obj)} {I C D : Addr} {oI oC : Obj} {m₂ : Str → Option Value} {i : Nat} {t : Tok} {zs : List Value} {S : List (Addr × Obj) → Prop} {h : Heap} {tk : Nat}
    (big : h₀.NoLimit) (T : TabD w fl ot tb) (hs : smallT tb = true) (hfl : ∀ p ∈ fl, p ∈ nw) (hm : (td, ot) ∈ nw) (lo : (td == sysModules) = false) (hcm : (c, oc) ∈ nw) (hcd : oc.data = .cell (some (.ref td)))
    (hkind : scope.kind = .function) (hx : scope.names.lookup x = some .local) (hn : (relabel scope env).names.lookup tn = some .cell) (hc : cc.lookup tn = some c) (d1 : (x == ("__debug__" : Str)) = false) (d2 : (tn == ("__debug__" : Str)) = false)
    (hi : i < 5) (hC : NsObj oC m₂) (hx2 : m₂ x = some (.str (wS i) t)) (F : Fr h₀ L h m) (N : News h₀ L h ((I, oI) :: (C, oC) :: (D, lst zs) :: nw)) (off : Off3 I C D nw) (hS : ∀ n2, (∀ p ∈ nw, p ∈ n2) → S n2) {rest : Value → List (Addr × Obj) → Prop}
    (hr : ∀ v n2, (∀ p ∈ nw, p ∈ n2) → RowV w n2 tb v i → rest v n2) :
    wpAny (model pr w) A (eval (.IfExp (.Compare (.Name x p1) [.In] [.Name tn p2] p3) (.Subscript (.Name tn p4) (.Name x p5) p6) (.Dict [] [] p7) p8) (compEnvC scope cc C env))
      (CompEnd h₀ L m { s with heap := h, toks := tk } I oI C oC D (lst zs) S rest) E { s with heap := h, toks := tk } := by
  have up : ∀ z ∈ nw, h.get? z.1 = some z.2 := fun z hz => (N _ (.tail _ (.tail _ (.tail _ hz)))).1
  have N2 : News h₀ L h nw := fun p hp => N p (.tail _ (.tail _ (.tail _ hp)))
  have nsC := hC.ns (N _ (.tail _ (.head _))).1
  have ldx : ∀ {Q : Value → Shared → Prop} {p : Pos} {tk : Nat}, Q (.str (wS i) t) { s with heap := h, toks := tk } → wpAny (model pr w) A (eval (.Name x p) (compEnvC scope cc C env)) Q E { s with heap := h, toks := tk } := fun hq => wpAny_Name (wpAny_loadName_local (env := compEnvC scope cc C env) hkind (lookup_relabel_local hx) nsC hx2 hq) d1
  have ldt : ∀ {Q : Value → Shared → Prop} {p : Pos} {tk : Nat}, Q (.ref td) { s with heap := h, toks := tk } → wpAny (model pr w) A (eval (.Name tn p) (compEnvC scope cc C env)) Q E { s with heap := h, toks := tk } := fun hq => wpAny_Name (wpAny_loadName_cell (env := compEnvC scope cc C env) hkind hn hc ⟨oc, up _ hcm, hcd⟩ hq) d2
  refine wpAny_IfExp (wpAny_isTrue_Compare1 (ldx (ldt ?_)))
  cases hl : lk tb i with
  | some row =>
    refine tabd_in (s := { s with heap := h, toks := tk }) N2 hm lo T hs hi true (by rw [hl]; rfl) (wpAny_truthy_bool ?_)
    rw [if_pos rfl]
    refine Subscript_ (ldt (ldx (tabd_item (s := { s with heap := h, toks := tk + 1 }) N2 hm T hs hi hl fun a oa h1 h2 h3 => ?_)))
    exact ⟨h, _, nw, rfl, F, N, off, hS nw fun _ hp => hp, hr _ nw (fun _ hp => hp) ⟨a, oa, rfl, hfl _ h1, h2, by unfold tabI; rw [hl]; exact h3⟩⟩
  | none =>
    refine tabd_in (s := { s with heap := h, toks := tk }) N2 hm lo T hs hi false (by rw [hl]; rfl) (wpAny_truthy_bool ?_)
    rw [if_neg (by decide)]
    refine newDict_K (s := { s with heap := h, toks := tk + 1 }) F N big fun d h' o F' N' l1 lo' _ _ hi' _ => ?_
    refine ⟨h', _, (d, o) :: nw, rfl, F', N'.perm fun p hp => ?_, ?_, hS _ fun p hp => .tail _ hp, hr _ _ (fun p hp => .tail _ hp) ⟨d, o, rfl, .head _, lo', by unfold tabI; rw [hl]; exact intD_nil hi'⟩⟩
    · simp only [List.mem_cons] at hp ⊢
      rcases hp with h | h | h | h | h <;> simp [h]
    · exact ⟨⟨Nat.ne_of_gt (l1 (I, oI) (.head _)), Nat.ne_of_gt (l1 (C, oC) (.tail _ (.head _))), Nat.ne_of_gt (l1 (D, lst zs) (.tail _ (.tail _ (.head _))))⟩, off⟩
end
end Mine
end
section
open PySem PySem.W PyProof.Rows PySem.Calls PySem.Spec PyProof.V PyProof.Rows.LCg PyProof.Rows.LCt
set_option maxRecDepth 100000
namespace Mine
theorem off1_mem {D : Addr} : ∀ {l : List (Addr × Obj)}, Off1 D l → ∀ p ∈ l, p.1 ≠ D
  | [], _, _, h => nomatch h
  | _ :: _, x, p, h => by
    rcases List.mem_cons.mp h with rfl | h
    · exact x.1
    · exact off1_mem x.2 p h
theorem strs_at {α : Type} {g : α → Str} : ∀ {zs : List Value} {xs : List α}, StrsAre zs (xs.map g) → ∀ {i : Nat} {v : Value}, zs[i]? = some v → ∃ a t, v = .str (g a) t ∧ xs[i]? = some a
  | [], [], _, i, v, h => by simp at h
  | _ :: _, [], h, _, _, _ => nomatch h
  | [], _ :: _, h, _, _, _ => nomatch h
  | _ :: _, a :: xs, .cons _ t h, 0, v, hv => by
    simp only [List.getElem?_cons_zero, Option.some.injEq] at hv
    exact ⟨a, _, hv.symm, rfl⟩
  | _ :: _, a :: xs, .cons _ t h, i + 1, v, hv => by
    simp only [List.getElem?_cons_succ] at hv
    exact strs_at h hv
section
variable {w : World} {A : Around} {E : Value → Shared → Prop} {s : Shared} {h₀ : Heap} {m : Str → Option Value} {env : Env} {news : List (Addr × Obj)}
/-- y = [table[x] if x in table else {} for x in names] -/
theorem comp_tabs {iter : PySem.Expr} {x tn y : Str} {px py p1 p2 p3 p4 p5 p6 p7 p8 : Pos} {scope : Scope} {cc : List (Str × Addr)} {pos spos : Pos} {Q : Flow → Shared → Prop} {td nl c : Nat} {ot oc : Obj} {tb : Tab}
    {zs : List Value} {n : Nat} {fl : List (Addr × Obj)} {c1 c2 c3 c4 c5 c6 : Nat} {o1 o2 o3 o4 o5 o6 : Obj} {v1 v2 v3 v4 v5 v6 : Option Value} {c7 : Nat} {tps : Array Value}
    (F : Fr h₀ env.locals s.heap m) (N : News h₀ env.locals s.heap news) (big : h₀.NoLimit) (hh : A.handled = none)
    (hsw : swapsWith (.ListComp (.IfExp (.Compare (.Name x p1) [.In] [.Name tn p2] p3) (.Subscript (.Name tn p4) (.Name x p5) p6) (.Dict [] [] p7) p8) [⟨.Name x px, iter, [], 0⟩] scope pos) (some (.Name y py)) spos.line env = pure true)
    (hclos : closureFor scope env = pure cc) (hcell : ∀ y ∈ scope.names, y.2 ≠ .cell) (hkind : scope.kind = .function) (hnames : ∀ y ∈ scope.names, y.2 = .local → scope.names.lookup y.1 = some .local)
    (hx : scope.names.lookup x = some .local) (hn : (relabel scope env).names.lookup tn = some .cell) (hc : cc.lookup tn = some c) (hy : env.kindOf y = some .local)
    (hp : (env.scope.kind == .class || (env.scope.kind == .module && env.locals != env.globals)) = false) (hcm : (c, oc) ∈ news) (hcd : oc.data = .cell (some (.ref td)))
    (hit : ∀ (Q : Value → Shared → Prop) (E' : Value → Shared → Prop), Q (.ref nl) s → wpAny (model pr w) A (eval iter env) Q E' s) (hm : (td, ot) ∈ news) (lo : (td == sysModules) = false)
    (T : TabD w fl ot tb) (hs : smallT tb = true) (hfl : ∀ p ∈ fl, p ∈ news) (m7 : (c7, tabObj tps) ∈ news) (hnl : (nl, listOf zs.toArray n) ∈ news) (hys : StrsAre zs nmS) (m1 : (c1, o1) ∈ news)
    (m2 : (c2, o2) ∈ news) (m3 : (c3, o3) ∈ news) (m4 : (c4, o4) ∈ news) (m5 : (c5, o5) ∈ news) (m6 : (c6, o6) ∈ news) (d1 : o1.data = .cell v1) (d2 : o2.data = .cell v2) (d3 : o3.data = .cell v3)
    (d4 : o4.data = .cell v4) (d5 : o5.data = .cell v5) (d6 : o6.data = .cell v6) (b1 : (x == ("__debug__" : Str)) = false) (b2 : (tn == ("__debug__" : Str)) = false)
    (hQ : ∀ D ys h' tk fl2, Fr h₀ env.locals h' (fun z => if z = y then some (.ref D) else m z) → News h₀ env.locals h' ((D, listOf ys.toArray ys.length) :: (c6, o6) :: (c5, o5) :: (c4, o4) :: (c3, o3) :: (c2, o2) :: (c1, o1) :: fl2) →
      (td, ot) ∈ fl2 → (nl, listOf zs.toArray n) ∈ fl2 → (c7, tabObj tps) ∈ fl2 → TabD w fl2 ot tb → All2 (RowV w fl2 tb) ys [0, 1, 2, 3, 4] →
      (∀ p ∈ fl2, p.1 ≠ D) → (∀ p ∈ fl2, p.1 ≠ c1) → (∀ p ∈ fl2, p.1 ≠ c2) → (∀ p ∈ fl2, p.1 ≠ c3) → (∀ p ∈ fl2, p.1 ≠ c4) → (∀ p ∈ fl2, p.1 ≠ c5) → (∀ p ∈ fl2, p.1 ≠ c6) → 
      D ≠ c1 → D ≠ c2 → D ≠ c3 → D ≠ c4 → D ≠ c5 → D ≠ c6 → Q .next { s with heap := h', toks := tk })
    (hfs : ∀ x, foldedSetIterable iter env x = pure x := by intro _; rfl) :
    wpAny (model pr w) A (exec (.Assign [.Name y py] (.ListComp (.IfExp (.Compare (.Name x p1) [.In] [.Name tn p2] p3) (.Subscript (.Name tn p4) (.Name x p5) p6) (.Dict [] [] p7) p8) [⟨.Name x px, iter, [], 0⟩] scope pos) spos) env) Q E s := by
  have hl := hys.length
  have hl5 : zs.length = 5 := by rw [hl]; rfl
  refine LCg.Assign_ListComp_U F rfl hsw hclos hcell hkind hnames hx hy hp (hit _ _ (LCg.CompSrc.ledger hh F N hnl (by rw [sizeLine_eq]; simp; omega) fun g' => ?_)) hfs
  refine comp_ind (α := Nat) [0, 1, 2, 3, 4] (fun i v => i < 5 ∧ ∃ t, v = .str (wS i) t) (by simp [hl5]) ?_ (fun r ys nw => (∀ p ∈ news, p ∈ nw) ∧ ∃ d, All2 (RowV w nw tb) ys d ∧ d ++ r = [0, 1, 2, 3, 4]) ?_ ?_ ⟨fun _ h => h, [], .nil, rfl⟩
  · intro i v hv
    have hv' : zs[i]? = some v := by simpa using hv
    rw [nm_wS] at hys
    obtain ⟨j, t, rfl, hj⟩ := strs_at hys hv'
    exact ⟨j, hj, by have := List.mem_of_getElem? hj; simp at this; omega, t, rfl⟩
  · rintro i r ys nw v I oI C oC D m₂ h tk E' ⟨hsub, d, hd1, hd2⟩ ⟨hi, t, rfl⟩ hC hx2 F3 N3 off ne
    refine tabs_elt (s := { s with heap := g' }) (S := SrcAt h₀ nl zs.toArray) big T hs (fun p hp => hsub _ (hfl _ hp)) (hsub _ hm) lo (hsub _ hcm) hcd hkind hx hn hc b1 b2 hi hC hx2 F3 N3 off (fun n2 h2 => .inr ⟨_, h2 _ (hsub _ hnl), rfl, _, rfl⟩) fun v n2 h2 hv => ?_
    refine ⟨fun p hp => h2 _ (hsub _ hp), d ++ [i], (hd1.mono fun a b hab => hab.mono h2).append (.cons hv .nil), by rw [List.append_assoc]; exact hd2⟩
  · rintro ys nw ⟨hsub, d, hd1, hd2⟩ D h tk F3 N3 o1
    rw [List.append_nil] at hd2
    subst hd2
    have hcs : ∀ c ∈ [c1, c2, c3, c4, c5, c6], ∃ oc v, (c, oc) ∈ nw ∧ oc.data = Data.cell v := by
      intro c hc
      simp only [List.mem_cons, List.not_mem_nil, or_false] at hc
      rcases hc with rfl | rfl | rfl | rfl | rfl | rfl
      · exact ⟨_, _, hsub _ m1, d1⟩
      · exact ⟨_, _, hsub _ m2, d2⟩
      · exact ⟨_, _, hsub _ m3, d3⟩
      · exact ⟨_, _, hsub _ m4, d4⟩
      · exact ⟨_, _, hsub _ m5, d5⟩
      · exact ⟨_, _, hsub _ m6, d6⟩
    have Nw : News h₀ env.locals h nw := fun p hp => N3 p (.tail _ hp)
    have offD : ∀ p ∈ nw, p.1 ≠ D := fun p hp => off1_mem o1 p hp
    have keep : ∀ {a : Nat} {oa : Obj}, (a, oa) ∈ nw → (∀ v, oa.data ≠ .cell v) → (a, oa) ∈ offC [c1, c2, c3, c4, c5, c6] nw := fun ha hno => offC_mem ha fun c hc => by
      obtain ⟨oc, v, m, d⟩ := hcs c hc
      exact off_cell Nw ha m d hno
    refine hQ D ys h tk (offC [c1, c2, c3, c4, c5, c6] nw) F3 (N3.perm fun p hp => ?_) (keep (hsub _ hm) (tabD_noCell T)) (keep (hsub _ hnl) fun v e => by cases e) (keep (hsub _ m7) fun v e => by cases e) ((T.mono fun p hp => hsub _ (hfl _ hp)).offC Nw hcs) (hd1.mono fun a b hab => ?_)
      (fun p hp => offD p (List.mem_filter.mp hp).1) (offC_ne (by simp)) (offC_ne (by simp)) (offC_ne (by simp)) (offC_ne (by simp)) (offC_ne (by simp)) (offC_ne (by simp))
      (Ne.symm (offD _ (hsub _ m1))) (Ne.symm (offD _ (hsub _ m2))) (Ne.symm (offD _ (hsub _ m3))) (Ne.symm (offD _ (hsub _ m4))) (Ne.symm (offD _ (hsub _ m5))) (Ne.symm (offD _ (hsub _ m6)))
    · simp only [List.mem_cons] at hp ⊢
      rcases hp with rfl | rfl | rfl | rfl | rfl | rfl | rfl | hp
      · exact .inl rfl
      · exact .inr (hsub _ m6)
      · exact .inr (hsub _ m5)
      · exact .inr (hsub _ m4)
      · exact .inr (hsub _ m3)
      · exact .inr (hsub _ m2)
      · exact .inr (hsub _ m1)
      · exact .inr (List.mem_filter.mp hp).1
    · obtain ⟨a, oa, h1, h2, h3, h4⟩ := hab
      exact ⟨a, oa, h1, keep h2 (intD_noCell h4), h3, h4⟩
end
end Mine
end
section
open PySem PySem.W PyProof.Rows PySem.Calls PySem.Spec PyProof.V PyProof.Rows.LCg PyProof.Rows.LCt
set_option maxRecDepth 100000
namespace Mine
section
variable {w : World} {A : Around} {E : Value → Shared → Prop} {s : Shared} {h₀ : Heap} {L C : Addr} {m m₂ mg mb : Str → Option Value} {env : Env} {scope : Scope} {cc : List (Str × Addr)} {loose : List Str} {mean : ExcName → Option Value} {news : List (Addr × Obj)} {Q : Value → Shared → Prop}
/-- a def of the top, called with one, with two values, in a comprehension's block -/
theorem callC1 {fn : Str} {f : Nat} {e1 : PySem.Expr} {p1 p2 : Pos} (F : Fr h₀ L s.heap m) (X : (frag.heap_1 w.params).In h₀) (T : Top topProg loose mean mg mb h₀)
    (hf : nsIn (frag.heap_1 w.params) mainGlobals fn = some (some (.ref f))) (hk : keepIn (frag.heap_1 w.params) (.ref f) = true)
    (g1 : env.globals = mainGlobals) (g2 : (compEnvC scope cc C env).scope.kind = .function) (g3 : (compEnvC scope cc C env).kindOf fn = some .globalImplicit) (g4 : (fn == ("__debug__" : Str)) = false)
    (he1 : starEach [e1] (compEnvC scope cc C env) = (false, eval e1 (compEnvC scope cc C env)) :: starEach [] (compEnvC scope cc C env))
    (h : wpAny (model pr w) A (eval e1 (compEnvC scope cc C env)) (fun v1 s₁ => (frag.heap_1 w.params).In s₁.heap ∧ wpAny (model pr w) A (call (.ref f) [v1]) Q E s₁) E s) :
    wpAny (model pr w) A (eval (.Call (.Name fn p1) [e1] [] p2) (compEnvC scope cc C env)) Q E s := by
  refine Call_Name rfl (LCgL.ld_global F X T hf ?_ g1 g2 g3 g4)
  refine callWith_K X hk (spliced_more (wpAny_mono h (fun v1 s₁ h₁ => ?_) fun _ _ e => e) he1) he1 rfl
  exact spliced_none h₁
theorem callC2 {fn : Str} {f : Nat} {e1 e2 : PySem.Expr} {p1 p2 : Pos} (F : Fr h₀ L s.heap m) (X : (frag.heap_1 w.params).In h₀) (T : Top topProg loose mean mg mb h₀)
    (hf : nsIn (frag.heap_1 w.params) mainGlobals fn = some (some (.ref f))) (hk : keepIn (frag.heap_1 w.params) (.ref f) = true)
    (g1 : env.globals = mainGlobals) (g2 : (compEnvC scope cc C env).scope.kind = .function) (g3 : (compEnvC scope cc C env).kindOf fn = some .globalImplicit) (g4 : (fn == ("__debug__" : Str)) = false)
    (he1 : starEach [e1, e2] (compEnvC scope cc C env) = (false, eval e1 (compEnvC scope cc C env)) :: starEach [e2] (compEnvC scope cc C env)) (he2 : starEach [e2] (compEnvC scope cc C env) = (false, eval e2 (compEnvC scope cc C env)) :: starEach [] (compEnvC scope cc C env))
    (h : wpAny (model pr w) A (eval e1 (compEnvC scope cc C env)) (fun v1 s₁ => wpAny (model pr w) A (eval e2 (compEnvC scope cc C env)) (fun v2 s₂ => (frag.heap_1 w.params).In s₂.heap ∧ wpAny (model pr w) A (call (.ref f) [v1, v2]) Q E s₂) E s₁) E s) :
    wpAny (model pr w) A (eval (.Call (.Name fn p1) [e1, e2] [] p2) (compEnvC scope cc C env)) Q E s := by
  refine Call_Name rfl (LCgL.ld_global F X T hf ?_ g1 g2 g3 g4)
  refine callWith_K X hk (spliced_more (wpAny_mono h (fun v1 s₁ h₁ => ?_) fun _ _ e => e) he1) he1 (by rw [he2]; rfl)
  refine spliced_more (wpAny_mono h₁ (fun v2 s₂ h₂ => ?_) fun _ _ e => e) he2
  exact spliced_none h₂
theorem nm_shortC : shortC.map (fun w => Ls w) = nmS ++ [Str.ofString "efe"] := by decide +kernel
theorem shortC_lt : ∀ w ∈ shortC, ∀ k ∈ w, k < 128 := by decide
theorem trip_eq {a b : Int × Int × Int} : decide ([a.1, a.2.1, a.2.2] = [b.1, b.2.1, b.2.2]) = (a == b) := by
  obtain ⟨a1, a2, a3⟩ := a
  obtain ⟨b1, b2, b3⟩ := b
  rw [Bool.eq_iff_iff]
  simp
/-- [x for x in names + ['efe'] if _law_moved(x, 'e') == end][0] -/
theorem comp_short {dp un : Nat} {gd : Option (List Code)} {cn : Str} {cs : Scope} {a : Addr} {ccd : Value} {cl : List (Str × Addr)} {outer : List Env} {A₀ : Around} {base : Heap} {x nm en fn : Str}
    {px p0 p1 p2 p3 p4 p5 p6 p7 p8 p9 p10 p11 p12 : Pos} {k1 k2 k3 : Nat} {pos : Pos} {nl cE el : Nat} {oE : Obj} {zs : List Value} {n n2 : Nat} {W : List Nat} {t1 t2 t3 : Tok}
    (B : Below A₀ base outer h₀) (F : Fr h₀ L s.heap m) (X : (frag.heap_1 w.params).In h₀) (N : News h₀ L s.heap news) (T : Top topProg loose mean mg mb h₀) (hk : cs.kind = .function)
    (hdp : dp + 16 < recursionLimit) (hun : un + 100 < cLine) (hP : PureOk W) (hclos : closureFor scope env = pure cc) (hcell : ∀ y ∈ scope.names, y.2 ≠ .cell) (hkind : scope.kind = .function)
    (hnames : ∀ y ∈ scope.names, y.2 = .local → scope.names.lookup y.1 = some .local) (hx : scope.names.lookup x = some .local) (hnE : (relabel scope env).names.lookup en = some .cell)
    (hcE2 : cc.lookup en = some cE) (hcE : (cE, oE) ∈ news) (hdE : oE.data = .cell (some (.ref el)))
    (hit : ∀ (Q : Value → Shared → Prop) (E' : Value → Shared → Prop), Q (.ref nl) s → wpAny (model pr w) (ktrTop dp un gd cn cs L a ccd cl outer) (eval (.Name nm p7) env) Q E' s)
    (hnl : (nl, listOf zs.toArray n) ∈ news) (hzs : StrsAre zs nmS)
    (hel : (el, listOf #[.int (mvL (Str.ofString "\"\\") W).1 t1, .int (mvL (Str.ofString "\"\\") W).2.1 t2, .int (mvL (Str.ofString "\"\\") W).2.2 t3] n2) ∈ news)
    (hf : nsIn (frag.heap_1 w.params) mainGlobals fn = some (some (.ref 101))) (hkp : keepIn (frag.heap_1 w.params) (.ref 101) = true) (g1 : env.globals = mainGlobals)
    (g3 : (relabel scope env).names.lookup fn = some .globalImplicit) (d1 : (x == ("__debug__" : Str)) = false) (d2 : (en == ("__debug__" : Str)) = false) (d3 : (fn == ("__debug__" : Str)) = false)
    (hQ : ∀ t h' tk, Fr h₀ L h' m → News h₀ L h' news → Q (.str (Ls (shortest W)) t) { s with heap := h', toks := tk })
    (hfs : ∀ x, foldedSetIterable (.BinOp (.Name nm p7) .Add (.List [.Constant (.str (Str.ofString "efe")) k2 p8] p9) p10) env x = pure x := by intro _; rfl)
    (hsub : ∀ (D : Nat) u, subscripted (.Constant (.int 0) k3 p11) false (.ref D) (.int 0 u) = operate [.ref D, .int 0 u] (getItem (.ref D) (.int 0 u)) := by intro _ _; with_unfolding_all rfl) :
    wpAny (model pr w) (ktrTop dp un gd cn cs L a ccd cl outer) (eval (.Subscript (.ListComp (.Name x p0) [⟨.Name x px, .BinOp (.Name nm p7) .Add (.List [.Constant (.str (Str.ofString "efe")) k2 p8] p9) p10, [.Compare (.Call (.Name fn p1) [.Name x p2, .Constant (.str (Str.ofString "e")) k1 p3] [] p4) [.Eq] [.Name en p5] p6], 0⟩] scope pos) (.Constant (.int 0) k3 p11) p12) env) Q E s := by
  have hne := hP.ne
  have hzl := hzs.length
  have hz5 : zs.length = 5 := by rw [hzl]; rfl
  have hg2 : ∀ C, (compEnvC scope cc C env).scope.kind = .function := fun C => hkind
  refine Subscript_ ?_
  refine ListComp_T F hclos hcell hkind hnames hx ?_ hfs
  refine wpAny_BinOp (hit _ _ (List_ (spliced_more (wpAny_Constant_str (spliced_none ?_)))))
  refine newList_K (s := { s with toks := s.toks + 1 }) F N (fun l h' F1 N1 l1 => ?_) (by rw [sizeLine_eq]; exact Nat.le_of_ble_eq_true rfl)
  refine kmk_add_lit (s := { s with heap := h', toks := s.toks + 1 }) (zs := zs ++ [Value.str (Str.ofString "efe") s.toks]) F1 N1 ⟨_, (N1 _ (.tail _ hnl)).1, rfl, _, rfl⟩ ⟨_, (N1 _ (.head _)).1, rfl, _, rfl⟩ (by simp) (fun D6 h6 F6 N6 l6 => ?_) (by rw [sizeLine_eq]; simp [hz5])
  have N7 : News h₀ L h6 ((D6, listOf (zs ++ [Value.str (Str.ofString "efe") s.toks]).toArray 0) :: news) := N6.perm fun p hp => by
    rcases List.mem_cons.mp hp with rfl | hp
    · exact .head _
    · exact .tail _ (.tail _ hp)
  refine CompSrcT.ledger (s₁ := { s with heap := h6, toks := s.toks + 1 }) rfl F6 N7 (.head _) (by rw [sizeLine_eq]; simp [hz5]) fun g' => ?_
  refine compT_ind (α := List Nat) shortC (fun ww v => ww ∈ shortC ∧ ∃ t, v = .str (Ls ww) t) (by simp [hz5, shortC]) ?_
    (fun r ys nw => nw = (D6, listOf (zs ++ [Value.str (Str.ofString "efe") s.toks]).toArray 0) :: news ∧ ∃ d, d ++ r = shortC ∧ StrsAre ys ((d.filter fun w => mvL (Str.ofString "e") w == mvL (Str.ofString "\"\\") W).map fun w => Ls w)) ?_ ?_ ⟨rfl, [], rfl, .nil⟩
  · intro i v hv
    have hv' : (zs ++ [Value.str (Str.ofString "efe") s.toks])[i]? = some v := by simpa using hv
    have hs6 : StrsAre (zs ++ [Value.str (Str.ofString "efe") s.toks]) (shortC.map fun w => Ls w) := by
      rw [nm_shortC]; exact strs_append hzs (.cons _ _ .nil)
    obtain ⟨j, t, rfl, hj⟩ := strs_at hs6 hv'
    exact ⟨j, hj, List.mem_of_getElem? hj, t, rfl⟩
  · rintro ww r ys nw v I oI C oC D m₂ h tk E' ⟨rfl, d, hd1, hd2⟩ ⟨hw, t, rfl⟩ hC hx2 F3 N3 off ne
    have nsC := hC.ns (N3 _ (.tail _ (.head _))).1
    refine wpAny_isTrue_Compare1 (callC2 (s := { s with heap := h, toks := tk }) F3 X T hf hkp g1 (hg2 C) g3 d3 (by rfl) (by rfl) ?_)
    refine wpAny_Name (wpAny_loadName_local (env := compEnvC scope cc C env) hkind (lookup_relabel_local hx) nsC hx2 ?_) d1
    refine wpAny_Constant_str ⟨X.keeps F3.keep, ?_⟩
    refine mov_spec (s := { s with heap := h, toks := tk + 1 }) B F3 X N3 T hk hdp hun (shortC_lt ww hw) fun D8 u1 u2 u3 n8 h8 tk8 F8 N8 ne8 => ?_
    have up8 : ∀ z ∈ news, h8.get? z.1 = some z.2 := fun z hz => (N8 _ (.tail _ (.tail _ (.tail _ (.tail _ (.tail _ hz)))))).1
    refine wpAny_Name (wpAny_loadName_cell (env := compEnvC scope cc C env) hkind hnE hcE2 ⟨oE, up8 _ hcE, hdE⟩ ?_) d2
    refine ke_eq_ints (s := { s with heap := h8, toks := tk8 }) (xs := [_, _, _]) (ys := [_, _, _]) ⟨_, (N8 _ (.head _)).1, rfl, _, rfl⟩ ⟨_, up8 _ hel, rfl, _, rfl⟩ (.cons _ _ (.cons _ _ (.cons _ _ .nil))) (.cons _ _ (.cons _ _ (.cons _ _ .nil))) (by show un + 64 < cLine; omega) ?_
    rw [trip_eq]
    refine wpAny_truthy_bool ?_
    have N9 : News h₀ L h8 ((I, oI) :: (C, oC) :: (D, lst ys) :: (D6, listOf (zs ++ [Value.str (Str.ofString "efe") s.toks]).toArray 0) :: news) := fun p hp => N8 p (.tail _ hp)
    cases hb : (mvL (Str.ofString "e") ww == mvL (Str.ofString "\"\\") W) with
    | true =>
      rw [if_pos rfl]
      refine wpAny_Name (wpAny_loadName_local (env := compEnvC scope cc C env) hkind (lookup_relabel_local hx) (hC.ns (N9 _ (.tail _ (.head _))).1) hx2 ?_) d1
      refine ⟨h8, tk8, _, rfl, F8, N9, off, .inr ⟨_, .head _, rfl, _, rfl⟩, rfl, d ++ [ww], by rw [List.append_assoc]; exact hd1, ?_⟩
      rw [List.filter_append, List.map_append]
      refine strs_append hd2 ?_
      rw [List.filter_cons_of_pos (by exact hb)]
      exact .cons _ _ .nil
    | false =>
      rw [if_neg (by decide)]
      refine ⟨h8, tk8, _, rfl, F8, N9, off, .inr ⟨_, .head _, rfl, _, rfl⟩, rfl, d ++ [ww], by rw [List.append_assoc]; exact hd1, ?_⟩
      rw [List.filter_append, List.map_append]
      rw [List.filter_cons_of_neg (by rw [hb]; decide)]
      simpa using hd2
  · rintro ys nw ⟨rfl, d, hd1, hd2⟩ D h tk F3 N3 o1
    rw [List.append_nil] at hd1
    subst hd1
    refine wpAny_Constant_int ?_
    have hsh : ∃ r, (shortC.filter fun w => mvL (Str.ofString "e") w == mvL (Str.ofString "\"\\") W) = shortest W :: r := by
      unfold shortest
      cases hc : shortC.filter fun w => mvL (Str.ofString "e") w == mvL (Str.ofString "\"\\") W with
      | nil => rw [hc] at hne; cases hne
      | cons b r => exact ⟨r, rfl⟩
    obtain ⟨r, hr⟩ := hsh
    rw [hr] at hd2
    obtain ⟨v, ys', t, rfl, rfl⟩ : ∃ v ys' t, ys = v :: ys' ∧ v = .str (Ls (shortest W)) t := by
      cases hd2 with
      | cons _ t _ => exact ⟨_, _, t, rfl, rfl⟩
    have hl : h.IsList D (Value.str (Ls (shortest W)) t :: ys').toArray := ⟨_, (N3 _ (.head _)).1, rfl, _, rfl⟩
    refine tail_any (s := { s with heap := h, toks := tk + 1 }) hl.typeIs slot_list_getitem.lookup (wpAny_getItem_list (s := { s with heap := h, toks := tk + 1 }) (x := Value.str (Ls (shortest W)) t) hl (by decide) (by decide) rfl ?_) (hsub _ _)
    exact hQ t h _ F3 (fun p hp => N3 p (.tail _ (.tail _ hp)))
end
end Mine
end
section
open PySem PySem.W PyProof.Rows PySem.Calls PySem.Spec PyProof.V PyProof.Rows.LCg PyProof.Rows.LCt
set_option maxRecDepth 100000
namespace Mine
theorem ints_append {xs ys : List Value} {ns ms : List Int} (h : IntsAre xs ns) (h' : IntsAre ys ms) : IntsAre (xs ++ ys) (ns ++ ms) := by
  induction h with
  | nil => exact h'
  | cons n t _ ih => exact .cons _ _ ih
theorem all2_at {α β : Type} {R : α → β → Prop} : ∀ {as : List α} {bs : List β}, All2 R as bs → ∀ {i : Nat} {a : α}, as[i]? = some a → ∃ b, bs[i]? = some b ∧ R a b
  | _, _, .nil, i, a, h => by simp at h
  | _, _, .cons r _, 0, a, h => by
    simp only [List.getElem?_cons_zero, Option.some.injEq] at h
    subst h
    exact ⟨_, rfl, r⟩
  | _, _, .cons _ hr, i + 1, a, h => by
    simp only [List.getElem?_cons_succ] at h
    exact all2_at hr h
theorem short_lt (W : List Nat) : ∀ k ∈ shortest W, k < 128 := by
  unfold shortest
  cases hc : shortC.filter fun w => mvL (Str.ofString "e") w == mvL (Str.ofString "\"\\") W with
  | nil => intro k hk; cases hk
  | cons b r =>
    have : b ∈ shortC := (List.mem_filter.mp (by rw [hc]; exact .head _)).1
    exact shortC_lt b this
section
variable {w : World} {E : Value → Shared → Prop} {s : Shared} {h₀ : Heap} {L : Addr} {m mg mb : Str → Option Value} {env : Env} {scope : Scope} {cc : List (Str × Addr)} {loose : List Str} {mean : ExcName → Option Value} {news : List (Addr × Obj)} {Q : Value → Shared → Prop}
  {dp un : Nat} {gd : Option (List Code)} {cn : Str} {cs : Scope} {a : Addr} {ccd : Value} {cl : List (Str × Addr)} {outer : List Env} {A₀ : Around} {base : Heap}
/-- [count_calls(x) for x in tables] -/
theorem comp_counts {iter : PySem.Expr} {x fn : Str} {px p1 p2 p4 : Pos} {pos : Pos} {al n : Nat} {ys : List Value} {tb : Tab} {fl : List (Addr × Obj)} (B : Below A₀ base outer h₀) (F : Fr h₀ L s.heap m)
    (X : (frag.heap_1 w.params).In h₀) (N : News h₀ L s.heap news) (T : Top topProg loose mean mg mb h₀) (hk : cs.kind = .function) (hdp : dp + 16 < recursionLimit) (hun : un + 100 < cLine)
    (hclos : closureFor scope env = pure cc) (hcell : ∀ y ∈ scope.names, y.2 ≠ .cell) (hkind : scope.kind = .function) (hnames : ∀ y ∈ scope.names, y.2 = .local → scope.names.lookup y.1 = some .local)
    (hx : scope.names.lookup x = some .local)
    (hit : ∀ (Q : Value → Shared → Prop) (E' : Value → Shared → Prop), Q (.ref al) s → wpAny (model pr w) (ktrTop dp un gd cn cs L a ccd cl outer) (eval iter env) Q E' s)
    (hal : (al, listOf ys.toArray n) ∈ news) (hys : All2 (RowV w fl tb) ys [0, 1, 2, 3, 4]) (hfl : ∀ p ∈ fl, p ∈ news) (hf : nsIn (frag.heap_1 w.params) mainGlobals fn = some (some (.ref 28)))
    (hkp : keepIn (frag.heap_1 w.params) (.ref 28) = true) (g1 : env.globals = mainGlobals) (g3 : (relabel scope env).names.lookup fn = some .globalImplicit) (d1 : (x == ("__debug__" : Str)) = false)
    (d3 : (fn == ("__debug__" : Str)) = false)
    (hQ : ∀ D zs h' tk, Fr h₀ L h' m → News h₀ L h' ((D, listOf zs.toArray zs.length) :: news) → Off1 D news → IntsAre zs ([0, 1, 2, 3, 4].map fun i => sumC (tabI tb i)) → Q (.ref D) { s with heap := h', toks := tk })
    (hfs : ∀ x, foldedSetIterable iter env x = pure x := by intro _; rfl) :
    wpAny (model pr w) (ktrTop dp un gd cn cs L a ccd cl outer) (eval (.ListComp (.Call (.Name fn p1) [.Name x p2] [] p4) [⟨.Name x px, iter, [], 0⟩] scope pos) env) Q E s := by
  have hyl := hys.length
  have hy5 : ys.length = 5 := by rw [hyl]; rfl
  refine LCg.ListComp_U F hclos hcell hkind hnames hx (hit _ _ (LCg.CompSrc.ledger rfl F N hal (by rw [sizeLine_eq]; simp [hy5]) fun g' => ?_)) hfs
  refine comp_ind (α := Nat) [0, 1, 2, 3, 4] (fun i v => RowV w fl tb v i) (by simp [hy5]) ?_ (fun r zs nw => nw = news ∧ ∃ d, d ++ r = [0, 1, 2, 3, 4] ∧ IntsAre zs (d.map fun i => sumC (tabI tb i))) ?_ ?_ ⟨rfl, [], rfl, .nil⟩
  · intro i v hv
    have hv' : ys[i]? = some v := by simpa using hv
    obtain ⟨b, h1, h2⟩ := all2_at hys hv'
    exact ⟨b, h1, h2⟩
  · rintro i r zs nw v I oI C oC D m₂ h tk E' ⟨rfl, d, hd1, hd2⟩ ⟨ra, oa, rfl, hra, hlo, hI⟩ hC hx2 F3 N3 off ne
    have nsC := hC.ns (N3 _ (.tail _ (.head _))).1
    refine callC1 (s := { s with heap := h, toks := tk }) F3 X T hf hkp g1 hkind g3 d3 (by rfl) ?_
    refine wpAny_Name (wpAny_loadName_local (env := compEnvC scope cc C env) hkind (lookup_relabel_local hx) nsC hx2 ⟨X.keeps F3.keep, ?_⟩) d1
    refine cnt_spec (s := { s with heap := h, toks := tk }) B F3 X N3 T hk hdp hun (.tail _ (.tail _ (.tail _ (hfl _ hra)))) hlo hI fun t h8 tk8 F8 N8 => ?_
    exact ⟨h8, tk8, _, rfl, F8, N8, off, .inr ⟨_, hal, rfl, _, rfl⟩, rfl, d ++ [i], by rw [List.append_assoc]; exact hd1, by rw [List.map_append]; exact ints_append hd2 (.cons _ _ .nil)⟩
  · rintro zs nw ⟨rfl, d, hd1, hd2⟩ D h tk F3 N3 o1
    rw [List.append_nil] at hd1
    subst hd1
    exact hQ D zs h tk F3 N3 o1 hd2
/-- [1 if _law_part(x, shortest) else 0 for x in names] -/
theorem comp_parts {iter : PySem.Expr} {x fn sn : Str} {px p1 p2 p3 p4 p5 p6 p7 : Pos} {k1 k2 : Nat} {pos : Pos} {nl n cS : Nat} {oS : Obj} {ys : List Value} {W : List Nat} {t : Tok} (B : Below A₀ base outer h₀)
    (F : Fr h₀ L s.heap m) (X : (frag.heap_1 w.params).In h₀) (N : News h₀ L s.heap news) (T : Top topProg loose mean mg mb h₀) (hk : cs.kind = .function) (_hP : PureOk W) (hdp : dp + 16 < recursionLimit)
    (hun : un + 100 < cLine) (hclos : closureFor scope env = pure cc) (hcell : ∀ y ∈ scope.names, y.2 ≠ .cell) (hkind : scope.kind = .function)
    (hnames : ∀ y ∈ scope.names, y.2 = .local → scope.names.lookup y.1 = some .local) (hx : scope.names.lookup x = some .local) (hnS : (relabel scope env).names.lookup sn = some .cell)
    (hcS2 : cc.lookup sn = some cS) (hcS : (cS, oS) ∈ news) (hdS : oS.data = .cell (some (.str (Ls (shortest W)) t)))
    (hit : ∀ (Q : Value → Shared → Prop) (E' : Value → Shared → Prop), Q (.ref nl) s → wpAny (model pr w) (ktrTop dp un gd cn cs L a ccd cl outer) (eval iter env) Q E' s)
    (hnl : (nl, listOf ys.toArray n) ∈ news) (hys : StrsAre ys nmS) (hf : nsIn (frag.heap_1 w.params) mainGlobals fn = some (some (.ref 108))) (hkp : keepIn (frag.heap_1 w.params) (.ref 108) = true)
    (g1 : env.globals = mainGlobals) (g3 : (relabel scope env).names.lookup fn = some .globalImplicit) (d1 : (x == ("__debug__" : Str)) = false) (d2 : (sn == ("__debug__" : Str)) = false)
    (d3 : (fn == ("__debug__" : Str)) = false)
    (hQ : ∀ D zs h' tk, Fr h₀ L h' m → News h₀ L h' ((D, listOf zs.toArray zs.length) :: news) → Off1 D news → IntsAre zs ([0, 1, 2, 3, 4].map fun i => if (partP (wc i) (shortest W)).isEmpty then 1 else 0) → Q (.ref D) { s with heap := h', toks := tk })
    (hfs : ∀ x, foldedSetIterable iter env x = pure x := by intro _; rfl) :
    wpAny (model pr w) (ktrTop dp un gd cn cs L a ccd cl outer) (eval (.ListComp (.IfExp (.Call (.Name fn p1) [.Name x p2, .Name sn p3] [] p4) (.Constant (.int 1) k1 p5) (.Constant (.int 0) k2 p6) p7) [⟨.Name x px, iter, [], 0⟩] scope pos) env) Q E s := by
  have hyl := hys.length
  have hy5 : ys.length = 5 := by rw [hyl]; rfl
  refine LCg.ListComp_U F hclos hcell hkind hnames hx (hit _ _ (LCg.CompSrc.ledger rfl F N hnl (by rw [sizeLine_eq]; simp [hy5]) fun g' => ?_)) hfs
  refine comp_ind (α := Nat) [0, 1, 2, 3, 4] (fun i v => i < 5 ∧ ∃ t, v = .str (wS i) t) (by simp [hy5]) ?_ (fun r zs nw => nw = news ∧ ∃ d, d ++ r = [0, 1, 2, 3, 4] ∧ IntsAre zs (d.map fun i => if (partP (wc i) (shortest W)).isEmpty then 1 else 0)) ?_ ?_ ⟨rfl, [], rfl, .nil⟩
  · intro i v hv
    have hv' : ys[i]? = some v := by simpa using hv
    rw [nm_wS] at hys
    obtain ⟨j, t, rfl, hj⟩ := strs_at hys hv'
    exact ⟨j, hj, by have := List.mem_of_getElem? hj; simp at this; omega, t, rfl⟩
  · rintro i r zs nw v I oI C oC D m₂ h tk E' ⟨rfl, d, hd1, hd2⟩ ⟨hi, t2, rfl⟩ hC hx2 F3 N3 off ne
    have nsC := hC.ns (N3 _ (.tail _ (.head _))).1
    have up3 : ∀ z ∈ nw, h.get? z.1 = some z.2 := fun z hz => (N3 _ (.tail _ (.tail _ (.tail _ hz)))).1
    refine wpAny_IfExp (isTrue_plain (callC2 (s := { s with heap := h, toks := tk }) F3 X T hf hkp g1 hkind g3 d3 (by rfl) (by rfl) ?_))
    refine wpAny_Name (wpAny_loadName_local (env := compEnvC scope cc C env) hkind (lookup_relabel_local hx) nsC hx2 ?_) d1
    refine wpAny_Name (wpAny_loadName_cell (env := compEnvC scope cc C env) hkind hnS hcS2 ⟨oS, up3 _ hcS, hdS⟩ ⟨X.keeps F3.keep, ?_⟩) d2
    rw [wS_wc hi]
    refine part_spec (s := { s with heap := h, toks := tk }) B F3 X N3 T hk hdp hun (wc_mem hi) (short_lt W) fun h8 tk8 F8 N8 => wpAny_truthy_bool ?_
    have fin : ∀ (v : Int) u tk9, v = (if (partP (wc i) (shortest W)).isEmpty then 1 else 0) → CompEnd h₀ L m { s with heap := h, toks := tk } I oI C oC D (lst zs) (SrcAt h₀ nl ys.toArray) (fun y news' => news' = nw ∧ ∃ d, d ++ r = [0, 1, 2, 3, 4] ∧ IntsAre (zs ++ [y]) (d.map fun i => if (partP (wc i) (shortest W)).isEmpty then 1 else 0)) (.int v u) { s with heap := h8, toks := tk9 } := by
      intro v u tk9 e
      exact ⟨h8, tk9, _, rfl, F8, N8, off, .inr ⟨_, hnl, rfl, _, rfl⟩, rfl, d ++ [i], by rw [List.append_assoc]; exact hd1, by rw [List.map_append]; refine ints_append hd2 ?_; rw [e]; exact .cons _ _ .nil⟩
    split
    · next e => exact wpAny_Constant_int (fin 1 _ _ (by rw [if_pos e]))
    · next e => exact wpAny_Constant_int (fin 0 _ _ (by rw [if_neg e]))
  · rintro zs nw ⟨rfl, d, hd1, hd2⟩ D h tk F3 N3 o1
    rw [List.append_nil] at hd1
    subst hd1
    exact hQ D zs h tk F3 N3 o1 hd2
end
end Mine
end
section
open PySem PySem.W PyProof.Rows PySem.Calls PySem.Spec PyProof.V PyProof.Rows.LCg PyProof.Rows.LCt
set_option maxRecDepth 100000
namespace Mine
theorem flat_all2 : ∀ {kvs : List (Int × Value)} {c : List (Int × Int)}, FlatPairs PyData.int kvs (kdfD c) → All2 (fun (p : (Tok → Value) × Value) (q : Int × Int) => (∀ t, p.1 t = Value.int q.1 t) ∧ ∃ t, p.2 = Value.int q.2 t) (kvs.map fun p => (kyVal (PyData.int p.1), p.2)) c
  | [], [], _ => .nil
  | _ :: _, [], h => nomatch h
  | [], _ :: _, h => nomatch h
  | (k, v) :: kvs, (k2, x) :: c, h => by
    have h' : FlatPairs PyData.int ((k, v) :: kvs) ((PyData.int k2, PyData.int x) :: kdfD c) := h
    cases h' with
    | cons hf hr =>
      obtain ⟨t, rfl⟩ := PyProof.V.Flat.int_inv hf
      exact .cons ⟨fun _ => rfl, t, rfl⟩ (flat_all2 hr)
theorem smI_bp {n : Nat} (hn : n ≤ 100) : smI (bp n) = true := by
  have : ∀ n < 101, smI (1048576 ^ n) = true := by decide +kernel
  have := this n (by omega)
  unfold bp
  simpa using this
section
variable {w : World} {A : Around} {E : Value → Shared → Prop} {s : Shared} {h₀ : Heap} {L : Addr} {m mg mb : Str → Option Value} {env : Env} {scope : Scope} {cc : List (Str × Addr)} {loose : List Str} {mean : ExcName → Option Value} {news : List (Addr × Obj)} {Q : Value → Shared → Prop}
theorem sum_ints {l : Addr} {vs : List Value} {ns : List Int} (hh : A.handled = none) (hl : s.heap.IsList l vs.toArray) (hi : IntsAre vs ns)
    (h : ∀ h' tk t', (∀ b o, s.heap.get? b = some o → h'.get? b = some o) → Q (.int ns.sum t') { s with heap := h', toks := tk }) : wpAny (model pr w) A (call (.builtin "sum") [.ref l]) Q E s := by
  obtain ⟨xs, hxs⟩ := hi.allInts.items
  have hx : vs.toArray = intItems xs := by simpa using hxs
  rw [hx] at hl
  refine sum_intListG hh hl fun h' tk t' hk => ?_
  have e : preSum (numAt xs) xs.size = ns.sum := by
    rw [preSum_eq, List.take_of_length_le (by simp), ← nums_intItems, ← hx, show vs.toArray.toList = vs from rfl, hi.numsOf]
  rw [e]
  exact h h' tk t' hk
/-- sum of a comprehension in a comprehension's block: the builtin's call -/
theorem sumC1 {sn : Str} {e1 : PySem.Expr} {p1 p2 : Pos} {C : Addr} (F : Fr h₀ L s.heap m) (X : (frag.heap_1 w.params).In h₀) (T : Top topProg loose mean mg mb h₀)
    (hf : nsIn (frag.heap_1 w.params) mainGlobals sn = some none) (hb : bootBuiltins sn = some (.builtin "sum")) (hn : sn ≠ "__name__")
    (g1 : env.globals = mainGlobals) (g2 : env.builtins = builtinsNs) (g3 : (compEnvC scope cc C env).scope.kind = .function) (g4 : (compEnvC scope cc C env).kindOf sn = some .globalImplicit) (g5 : (sn == ("__debug__" : Str)) = false)
    (he1 : starEach [e1] (compEnvC scope cc C env) = [(false, eval e1 (compEnvC scope cc C env))])
    (h : wpAny (model pr w) A (eval e1 (compEnvC scope cc C env)) (fun v1 s₁ => wpAny (model pr w) A (call (.builtin "sum") [v1]) Q E s₁) E s) :
    wpAny (model pr w) A (eval (.Call (.Name sn p1) [e1] [] p2) (compEnvC scope cc C env)) Q E s := by
  refine Call_Name1 (LCgL.ld_built F X T hf hb hn ?_ g1 g2 g3 g4 g5) he1
  exact PySem.callWith_builtin1 h
theorem kcpRest_ind {elt : PySem.Expr} {a b : Str} {S : List (Addr × Obj) → Prop} {Fin : List Value → List (Addr × Obj) → Prop} (J : List (Int × Int) → List Value → List (Addr × Obj) → Prop)
    (turn : ∀ q r ys news (t u : Tok) I oI C oC D m₂ h tk (E' : Value → Shared → Prop), J (q :: r) ys news → NsObj oC m₂ → m₂ a = some (Value.int q.1 t) → m₂ b = some (Value.int q.2 u) → Fr h₀ L h m → News h₀ L h ((I, oI) :: (C, oC) :: (D, lst ys) :: news) → Off3 I C D news →
      wpAny (model pr w) A (eval elt (compEnvC scope cc C env)) (CompEnd h₀ L m { s with heap := h, toks := tk } I oI C oC D (lst ys) S (fun y news' => J r (ys ++ [y]) news')) E' { s with heap := h, toks := tk })
    (fin : ∀ ys news, J [] ys news → Fin ys news) : ∀ {xs : List ((Tok → Value) × Value)} {c : List (Int × Int)}, All2 (fun p q => (∀ t, p.1 t = Value.int q.1 t) ∧ ∃ t, p.2 = Value.int q.2 t) xs c → ∀ {ys : List Value} {news : List (Addr × Obj)}, J c ys news →
    KcpRest pr w A h₀ L m env elt a b scope cc s S Fin xs ys news
  | _, _, .nil, _, _, h0 => KcpRest.nil (fin _ _ h0)
  | _, _, .cons h hr, ys, news, h0 => by
    refine KcpRest.cons fun t I oI C oC D m₂ h1 tk E' hC ha hb F N off ne => ?_
    obtain ⟨h2, u, h3⟩ := h
    rw [h2] at ha
    rw [h3] at hb
    exact wpAny_mono (turn _ _ ys news t u I oI C oC D m₂ h1 tk E' h0 hC ha hb F N off) (fun y s₂ hy => CompEnd.mono (fun y n hj => kcpRest_ind J turn fin hr hj) hy) fun _ _ e => e
/-- sum([c * base ** (k + 15) for k, c in x.items()]) -/
theorem el_poly {x sn ck kk2 bn : Str} {pl : Sem Bool} {p1 p2 p3 p4 p5 p6 p7 p8 p9 p10 q1 q2 q3 q4 q5 : Pos} {k1 k2 : Nat} {scope2 : Scope} {cc2 : List (Str × Addr)} {pos2 : Pos} {C ra cB : Nat} {oa oB oC : Obj} {c : List (Int × Int)} {m₂ : Str → Option Value} {tB : Tok}
    (hh : A.handled = none) (F : Fr h₀ L s.heap m) (X : (frag.heap_1 w.params).In h₀) (N : News h₀ L s.heap news) (T : Top topProg loose mean mg mb h₀)
    (hra : (ra, oa) ∈ news) (hlo : (ra == sysModules) = false) (hI : IntD w oa c) (hok : okPoly c = true) (hlen : c.length ≤ 1000) (hcB : (cB, oB) ∈ news) (hdB : oB.data = .cell (some (.int 1048576 tB)))
    (hmC : (C, oC) ∈ news) (hC : NsObj oC m₂) (hx2 : m₂ x = some (.ref ra))
    (hkind : scope.kind = .function) (hx : scope.names.lookup x = some .local)
    (hf : nsIn (frag.heap_1 w.params) mainGlobals sn = some none) (hb : bootBuiltins sn = some (.builtin "sum")) (hn : sn ≠ "__name__")
    (g1 : env.globals = mainGlobals) (g2 : env.builtins = builtinsNs) (g4 : (relabel scope env).names.lookup sn = some .globalImplicit)
    (hclos : closureFor scope2 (compEnvC scope cc C env) = pure cc2) (hcell : ∀ y ∈ scope2.names, y.2 ≠ .cell) (hkind2 : scope2.kind = .function)
    (hnames : ∀ y ∈ scope2.names, y.2 = .local → scope2.names.lookup y.1 = some .local) (hk2 : scope2.names.lookup kk2 = some .local) (hc2 : scope2.names.lookup ck = some .local) (hne : ¬ kk2 = ck)
    (hnB : (relabel scope2 (compEnvC scope cc C env)).names.lookup bn = some .cell) (hcB2 : cc2.lookup bn = some cB)
    (d1 : (x == ("__debug__" : Str)) = false) (d2 : (sn == ("__debug__" : Str)) = false) (d3 : (kk2 == ("__debug__" : Str)) = false) (d4 : (ck == ("__debug__" : Str)) = false) (d5 : (bn == ("__debug__" : Str)) = false)
    (hme : eval (.Call (.Attribute (.Name x q4) "items" q5) [] [] p9) (compEnvC scope cc C env) = (do
      let ov ← eval (.Name x q4) (compEnvC scope cc C env)
      standAt q5.atName
      let (f, first) ← holding [ov] (getMethod ov "items" pl)
      callWith p9 f first (backTo p9 (starEach [] (compEnvC scope cc C env))) []))
    (hQ : ∀ t h' tk, Fr h₀ L h' m → News h₀ L h' news → Q (.int (polyC c) t) { s with heap := h', toks := tk }) :
    wpAny (model pr w) A (eval (.Call (.Name sn p1) [.ListComp (.BinOp (.Name ck p2) .Mult (.BinOp (.Name bn p3) .Pow (.BinOp (.Name kk2 p4) .Add (.Constant (.int 15) k1 p5) p6) p7) p8) [⟨.Tuple [.Name kk2 q1, .Name ck q2] k2 q3, .Call (.Attribute (.Name x q4) "items" q5) [] [] p9, [], 0⟩] scope2 pos2] [] p10) (compEnvC scope cc C env)) Q E s := by
  obtain ⟨kvs, hkd, hfl⟩ := hI
  have hkl : kvs.length = c.length := by have := hfl.length; rw [kdfD_length] at this; exact this.symm
  refine sumC1 F X T hf hb hn g1 g2 hkind g4 d2 (by rfl) ?_
  refine kcp_ListComp (PySem.intKind pr w) F hclos hcell hkind2 hnames hk2 hc2 hne ?_
  refine MethodCall_ (pl := pl) ?_ hme
  refine wpAny_Name (wpAny_loadName_local (env := compEnvC scope cc C env) hkind (lookup_relabel_local hx) (hC.ns (N _ hmC).1) hx2 ?_) d1
  refine kdl_method (knd := PySem.intKind pr w) PySem.F.slot_dict_items PySem.F.type_dict_items N hra hkd ?_
  refine callWith_method0 ?_
  refine kta_callItems (knd := PySem.intKind pr w) F N hra hkd hlo fun h' hv F1 N1 => ?_
  refine KcpSrc.intro (enc := PyData.int) hh F1 N1 hv hra hkd (by rw [hkl, sizeLine_eq]; omega) (fun _ _ h => Value.isInt_shape h) rfl fun g => ?_
  refine kcpRest_ind (fun r ys nw => nw = news ∧ ∃ d, d ++ r = c ∧ IntsAre ys (d.map fun p => p.2 * bq (p.1 + 15))) ?_ ?_ (flat_all2 hfl) ⟨rfl, [], rfl, .nil⟩
  · rintro ⟨k, v⟩ r ys nw t u I oI C2 oC2 D m3 h tk E' ⟨rfl, d, hd1, hd2⟩ hC2 ha hb2 F3 N3 off
    have hmem : (k, v) ∈ c := by rw [← hd1]; simp
    have hkok : 0 ≤ k + 15 ∧ k + 15 ≤ 100 ∧ smI v = true := by
      unfold okPoly at hok
      have := List.all_eq_true.mp hok _ hmem
      simp only [Bool.and_eq_true, decide_eq_true_eq] at this
      exact ⟨this.1.1, this.1.2, this.2⟩
    have nsC2 := hC2.ns (N3 _ (.tail _ (.head _))).1
    have up3 : ∀ z ∈ nw, h.get? z.1 = some z.2 := fun z hz => (N3 _ (.tail _ (.tail _ (.tail _ hz)))).1
    refine wpAny_BinOp (wpAny_Name (wpAny_loadName_local (env := compEnvC scope2 cc2 C2 (compEnvC scope cc C env)) hkind2 (lookup_relabel_local hc2) nsC2 hb2 ?_) d4)
    refine wpAny_BinOp (wpAny_Name (wpAny_loadName_cell (env := compEnvC scope2 cc2 C2 (compEnvC scope cc C env)) hkind2 hnB hcB2 ⟨oB, up3 _ hcB, hdB⟩ ?_) d5)
    refine wpAny_BinOp (wpAny_Name (wpAny_loadName_local (env := compEnvC scope2 cc2 C2 (compEnvC scope cc C env)) hkind2 (lookup_relabel_local hk2) nsC2 ha ?_) d3)
    refine wpAny_Constant_int (PySem.P.add_int ?_)
    obtain ⟨n, hn2⟩ : ∃ n : Nat, k + 15 = n := ⟨(k + 15).toNat, by omega⟩
    rw [show ((k, v) : Int × Int).1 + 15 = (n : Int) from hn2]
    refine pow_bp (by omega) ?_
    refine PySem.P.mul_int ?_ (hm := smI_mul hkok.2.2 (smI_bp (by omega)))
    refine ⟨h, _, _, rfl, F3, N3, off, .inr ⟨oa, hra, rfl, 0, rfl⟩, rfl, d ++ [(k, v)], by rw [List.append_assoc]; exact hd1, ?_⟩
    rw [List.map_append]
    refine ints_append hd2 ?_
    have e : v * bp n = v * bq (k + 15) := by unfold bq; rw [hn2]; rfl
    show IntsAre [Value.int (v * bp n) _] [v * bq (k + 15)]
    rw [e]
    exact .cons _ _ .nil
  · rintro ys nw ⟨rfl, d, hd1, hd2⟩ D h tk F3 N3 o1
    rw [List.append_nil] at hd1
    subst hd1
    refine sum_ints hh ⟨_, (N3 _ (.head _)).1, rfl, _, rfl⟩ hd2 fun h5 tk5 t5 hk5 => ?_
    exact hQ _ _ _ (F3.keeps hk5) ((show News h₀ L h nw from fun p hp => N3 p (.tail _ hp)).grown hk5)
/-- [sum([c * base ** (k + 15) for k, c in x.items()]) for x in tables] -/
theorem comp_polys {dp un : Nat} {gd : Option (List Code)} {cn : Str} {cs : Scope} {a : Addr} {ccd : Value} {cl : List (Str × Addr)} {outer : List Env} {iter : PySem.Expr} {x sn ck kk2 bn : Str} {pl : Addr → Sem Bool}
    {px p1 p2 p3 p4 p5 p6 p7 p8 p9 p10 q1 q2 q3 q4 q5 : Pos} {k1 k2 : Nat} {scope2 : Scope} {cc2 : List (Str × Addr)} {pos pos2 : Pos} {al n cB : Nat} {oB : Obj} {ys : List Value} {W : List Nat}
    {fl : List (Addr × Obj)} {tB : Tok} (F : Fr h₀ L s.heap m) (X : (frag.heap_1 w.params).In h₀) (N : News h₀ L s.heap news) (T : Top topProg loose mean mg mb h₀) (hclos1 : closureFor scope env = pure cc)
    (hcell1 : ∀ y ∈ scope.names, y.2 ≠ .cell) (hkind : scope.kind = .function) (hnames1 : ∀ y ∈ scope.names, y.2 = .local → scope.names.lookup y.1 = some .local) (hx : scope.names.lookup x = some .local)
    (hit : ∀ (Q : Value → Shared → Prop) (E' : Value → Shared → Prop), Q (.ref al) s → wpAny (model pr w) (ktrTop dp un gd cn cs L a ccd cl outer) (eval iter env) Q E' s)
    (hok : ∀ i < 5, okPoly (tabI (unf W tb0) i) = true) (hlen : ∀ i < 5, (tabI (unf W tb0) i).length ≤ 1000) (hal : (al, listOf ys.toArray n) ∈ news)
    (hys : All2 (RowV w fl (unf W tb0)) ys [0, 1, 2, 3, 4]) (hfl : ∀ p ∈ fl, p ∈ news) (hf : nsIn (frag.heap_1 w.params) mainGlobals sn = some none) (hb : bootBuiltins sn = some (.builtin "sum"))
    (hn : sn ≠ "__name__") (g1 : env.globals = mainGlobals) (g2 : env.builtins = builtinsNs) (g4 : (relabel scope env).names.lookup sn = some .globalImplicit)
    (hclos : ∀ C, closureFor scope2 (compEnvC scope cc C env) = pure cc2) (hcell : ∀ y ∈ scope2.names, y.2 ≠ .cell) (hkind2 : scope2.kind = .function)
    (hnames : ∀ y ∈ scope2.names, y.2 = .local → scope2.names.lookup y.1 = some .local) (hk2 : scope2.names.lookup kk2 = some .local) (hc2 : scope2.names.lookup ck = some .local) (hne : ¬ kk2 = ck)
    (hnB : ∀ C, (relabel scope2 (compEnvC scope cc C env)).names.lookup bn = some .cell) (hcB2 : cc2.lookup bn = some cB) (hcB : (cB, oB) ∈ news) (hdB : oB.data = .cell (some (.int 1048576 tB)))
    (d1 : (x == ("__debug__" : Str)) = false) (d2 : (sn == ("__debug__" : Str)) = false) (d3 : (kk2 == ("__debug__" : Str)) = false) (d4 : (ck == ("__debug__" : Str)) = false)
    (d5 : (bn == ("__debug__" : Str)) = false)
    (hme : ∀ C, eval (.Call (.Attribute (.Name x q4) "items" q5) [] [] p9) (compEnvC scope cc C env) = (do
      let ov ← eval (.Name x q4) (compEnvC scope cc C env)
      standAt q5.atName
      let (f, first) ← holding [ov] (getMethod ov "items" (pl C))
      callWith p9 f first (backTo p9 (starEach [] (compEnvC scope cc C env))) []))
    (hQ : ∀ D t0 t1 t2 t3 t4 h' tk, Fr h₀ L h' m → News h₀ L h' ((D, listOf #[.int (pv W 0) t0, .int (pv W 1) t1, .int (pv W 2) t2, .int (pv W 3) t3, .int (pv W 4) t4] 5) :: news) → Off1 D news → Q (.ref D) { s with heap := h', toks := tk })
    (hfs : ∀ x, foldedSetIterable iter env x = pure x := by intro _; rfl) :
    wpAny (model pr w) (ktrTop dp un gd cn cs L a ccd cl outer) (eval (.ListComp (.Call (.Name sn p1) [.ListComp (.BinOp (.Name ck p2) .Mult (.BinOp (.Name bn p3) .Pow (.BinOp (.Name kk2 p4) .Add (.Constant (.int 15) k1 p5) p6) p7) p8) [⟨.Tuple [.Name kk2 q1, .Name ck q2] k2 q3, .Call (.Attribute (.Name x q4) "items" q5) [] [] p9, [], 0⟩] scope2 pos2] [] p10) [⟨.Name x px, iter, [], 0⟩] scope pos) env) Q E s := by
  have hyl := hys.length
  have hy5 : ys.length = 5 := by rw [hyl]; rfl
  refine LCg.ListComp_U F hclos1 hcell1 hkind hnames1 hx (hit _ _ (LCg.CompSrc.ledger rfl F N hal (by rw [sizeLine_eq]; simp [hy5]) fun g' => ?_)) hfs
  refine comp_ind (α := Nat) [0, 1, 2, 3, 4] (fun i v => i < 5 ∧ RowV w fl (unf W tb0) v i) (by simp [hy5]) ?_ (fun r zs nw => nw = news ∧ ∃ d, d ++ r = [0, 1, 2, 3, 4] ∧ IntsAre zs (d.map fun i => pv W i)) ?_ ?_ ⟨rfl, [], rfl, .nil⟩
  · intro i v hv
    have hv' : ys[i]? = some v := by simpa using hv
    obtain ⟨b, h1, h2⟩ := all2_at hys hv'
    exact ⟨b, h1, by have := List.mem_of_getElem? h1; simp at this; omega, h2⟩
  · rintro i r zs nw v I oI C oC D m₂ h tk E' ⟨rfl, d, hd1, hd2⟩ ⟨hi, ra, oa, rfl, hra, hlo, hI⟩ hC hx2 F3 N3 off ne
    have up : ∀ z ∈ nw, z ∈ (I, oI) :: (C, oC) :: (D, lst zs) :: nw := fun z hz => .tail _ (.tail _ (.tail _ hz))
    refine el_poly (s := { s with heap := h, toks := tk }) rfl F3 X N3 T (up _ (hfl _ hra)) hlo hI (hok i hi) (hlen i hi) (up _ hcB) hdB (.tail _ (.head _)) hC hx2 hkind hx hf hb hn g1 g2 g4 (hclos C) hcell hkind2 hnames hk2 hc2 hne (hnB C) hcB2 d1 d2 d3 d4 d5 (hme C) fun t h8 tk8 F8 N8 => ?_
    rw [show polyC (tabI (unf W tb0) i) = pv W i from by unfold pv; rfl]
    exact ⟨h8, tk8, _, rfl, F8, N8, off, .inr ⟨_, hal, rfl, _, rfl⟩, rfl, d ++ [i], by rw [List.append_assoc]; exact hd1, by rw [List.map_append]; exact ints_append hd2 (.cons _ _ .nil)⟩
  · rintro zs nw ⟨rfl, d, hd1, hd2⟩ D h tk F3 N3 o1
    rw [List.append_nil] at hd1
    subst hd1
    cases hd2 with
    | cons _ t0 h => cases h with
      | cons _ t1 h => cases h with
        | cons _ t2 h => cases h with
          | cons _ t3 h => cases h with
            | cons _ t4 h => cases h with
              | nil => exact hQ D _ _ _ _ _ _ tk F3 N3 o1
end
end Mine
end
section
open PySem PySem.W PyProof.Rows PySem.Calls PySem.Spec PyProof.V PyProof.Rows.LCg PyProof.Rows.LCt
set_option maxRecDepth 100000
namespace Mine
section
variable {prog : Program} {w : World} {A : Around} {E : Value → Shared → Prop} {s : Shared} {h₀ : Heap} {L a : Addr} {m : Str → Option Value} {cn : Str} {cs : Scope} {ccd : Value} {cl : List (Str × Addr)} {news : List (Addr × Obj)} {Q : Value → Shared → Prop}
theorem el_stepC {env : Env} {x : Str} {k : Nat} {t : Tok} {p1 p2 p3 p4 p5 p6 p7 : Pos} {k1 k2 k3 : Nat} {m₂ : Str → Option Value} (hk4 : k ∈ [34, 92, 32, 10]) (hk : env.scope.kind = .function) (hx : env.kindOf x = some .local) (hn : s.heap.Ns env.locals m₂) (hv : m₂ x = some (.str ⟨#[k]⟩ t)) (hd : (x == ("__debug__" : Str)) = false := by decide) :
    wpAny (model prog w) A (eval (.IfExp (.Compare (.Name x p1) [.In] [.Constant (.str (Str.ofString "\" ")) k1 p2] p3) (.Constant (.int 1) k2 p4) (.UnaryOp .USub (.Constant (.int 1) k3 p5) p7) p6) env) (fun y s₃ => ∃ t' tk', y = .int (stOf k) t' ∧ s₃ = { s with toks := tk' }) E s := by
  refine wpAny_IfExp (wpAny_isTrue_Compare1 (wpAny_Name (wpAny_loadName_local hk hx hn hv (wpAny_Constant_str (in_str (wpAny_truthy_bool ?_)))) hd))
  have hb := inB_step hk4
  unfold inB at hb
  rw [hb]
  unfold stOf
  cases (k == 34 || k == 32) with
  | true =>
    rw [if_pos rfl, if_pos rfl]
    exact wpAny_Constant_int ⟨_, _, rfl, rfl⟩
  | false =>
    rw [if_neg (by decide), if_neg (by decide)]
    exact wpAny_UnaryOp (wpAny_Constant_int (PySem.P.neg_int ⟨_, _, rfl, rfl⟩))
/-- [1 if x in '" ' else -1 for x in y], y a local text -/
theorem comp_ahead {x y : Str} {p1 p2 p3 p4 p5 p6 p7 px py : Pos} {k1 k2 k3 : Nat} {scope : Scope} {cc : List (Str × Addr)} {pos : Pos} {ks : List Nat} {t : Tok} (F : Fr h₀ L s.heap m) (N : News h₀ L s.heap news) (hh : A.handled = none) (hy : m y = some (.str (Ls ks) t)) (h4 : ∀ k ∈ ks, k ∈ [34, 92, 32, 10]) (hlen : ks.length ≤ 100)
    (hclos : closureFor scope (envX cn cs L a ccd cl) = pure cc) (hcell : ∀ y ∈ scope.names, y.2 ≠ .cell) (hkind : scope.kind = .function)
    (hnames : ∀ y ∈ scope.names, y.2 = .local → scope.names.lookup y.1 = some .local) (hx : scope.names.lookup x = some .local) (d1 : (x == ("__debug__" : Str)) = false)
    (hQ : ∀ D zs h' tk, Fr h₀ L h' m → News h₀ L h' ((D, listOf zs.toArray zs.length) :: news) → Off1 D news → IntsAre zs (ks.map stOf) → Q (.ref D) { s with heap := h', toks := tk })
    (hk : cs.kind = .function := by rfl) (hyk : (envX cn cs L a ccd cl).kindOf y = some .local := by rfl) (hd : (y == ("__debug__" : Str)) = false := by decide) :
    wpAny (model prog w) A (eval (.ListComp (.IfExp (.Compare (.Name x p1) [.In] [.Constant (.str (Str.ofString "\" ")) k1 p2] p3) (.Constant (.int 1) k2 p4) (.UnaryOp .USub (.Constant (.int 1) k3 p5) p7) p6) [⟨.Name x px, .Name y py, [], 0⟩] scope pos) (envX cn cs L a ccd cl)) Q E s := by
  have hall : ∀ k ∈ ks, k < 128 := fun k hk => by have := h4 k hk; simp at this; omega
  refine ListComp_S F hclos hcell hkind hnames hx (nameX_L F hy ⟨Ls ks, t, news, rfl, hh, F, N, ?_, ?_, ?_⟩ hk hyk hd)
  · simpa using hall
  · rw [sizeLine_eq]; show ks.toArray.size ≤ _; simp; omega
  · rintro s₂ ⟨hp, rfl⟩
    refine comp_ind (α := Nat) ks (fun k v => ∃ u, v = .str ⟨#[k]⟩ u) (by simp) ?_ (fun r ys nw => nw = news ∧ (∀ k ∈ r, k ∈ ks) ∧ ∃ d, IntsAre ys (d.map stOf) ∧ d ++ r = ks) ?_ ?_ ⟨rfl, fun _ h => h, [], .nil, rfl⟩
    · rintro i v ⟨c, u, hc, rfl⟩
      exact ⟨c, by simpa using hc, u, rfl⟩
    · rintro k r ys nw v I oI C oC D m₂ h tk E' ⟨rfl, hr, d, hd1, hd2⟩ ⟨u, rfl⟩ hC hx2 F3 N3 off ne
      refine wpAny_mono (el_stepC (s := { s with heap := h, toks := tk }) (env := compEnvC scope cc C (envX cn cs L a ccd cl)) (h4 k (hr k (.head _))) hkind (lookup_relabel_local hx) (hC.ns (N3 _ (.tail _ (.head _))).1) hx2 d1) (fun y s₃ hy3 => ?_) fun _ _ e => e
      obtain ⟨t', tk', rfl, rfl⟩ := hy3
      refine CompEnd.same (s := s) F3 N3 off trivial ⟨rfl, fun k hk => hr k (.tail _ hk), d ++ [k], ?_, by rw [List.append_assoc]; exact hd2⟩
      rw [List.map_append]
      exact ints_append hd1 (.cons _ _ .nil)
    · rintro ys nw ⟨rfl, _, d, hd1, hd2⟩ D h tk F3 N3 o1
      rw [List.append_nil] at hd2
      subst hd2
      exact hQ D ys h tk F3 N3 o1 hd1
theorem sum_ahead {l : Addr} {zs : List Value} {W : List Nat} (F : Fr h₀ L s.heap m) (N : News h₀ L s.heap news) (hh : A.handled = none) (hm : (l, listOf zs.toArray zs.length) ∈ news) (hi : IntsAre zs (W.map stOf))
    (h : ∀ t h' tk, Fr h₀ L h' m → News h₀ L h' news → Q (.int (aheadC W) t) { s with heap := h', toks := tk }) : wpAny (model pr w) A (call (.builtin "sum") [.ref l]) Q E s :=
  sum_ints hh ⟨_, (N _ hm).1, rfl, _, rfl⟩ hi fun h' tk t' hk => by
    have := h t' h' tk (F.keeps hk) (N.grown hk)
    unfold aheadC at this
    exact this
theorem pow_ahead {n : Int} {t u : Tok} (h0 : 0 ≤ n) (h1 : n ≤ 100) (h : Q (.int (bq n) s.toks) { s with toks := s.toks + 1 }) : wpAny (model prog w) A (binaryOp .Pow (.int 1048576 t) (.int n u)) Q E s := by
  obtain ⟨k, rfl⟩ : ∃ k : Nat, n = k := ⟨n.toNat, by omega⟩
  exact pow_bp (by omega) (by unfold bq at h; exact h)
theorem ne_ints {l1 l2 : Addr} {xs ys : List Value} {n1 n2 : Nat} {ns ms : List Int} (N : News h₀ L s.heap news) (ha : (l1, listOf xs.toArray n1) ∈ news) (hb : (l2, listOf ys.toArray n2) ∈ news) (hi : IntsAre xs ns) (hj : IntsAre ys ms) (e : ns = ms) (hu : A.units + 64 < cLine) (h : Q (.bool false) s) :
    wpAny (model prog w) A (compareOp .NotEq (.ref l1) (.ref l2)) Q E s :=
  ke_ne_ints ⟨_, (N _ ha).1, rfl, _, rfl⟩ ⟨_, (N _ hb).1, rfl, _, rfl⟩ hi hj hu (by subst e; simpa using h)
theorem eq_ints {l1 l2 : Addr} {xs ys : List Value} {n1 n2 : Nat} {ns ms : List Int} (N : News h₀ L s.heap news) (ha : (l1, listOf xs.toArray n1) ∈ news) (hb : (l2, listOf ys.toArray n2) ∈ news) (hi : IntsAre xs ns) (hj : IntsAre ys ms) (e : ns = ms) (hu : A.units + 64 < cLine) (h : Q (.bool true) s) :
    wpAny (model prog w) A (compareOp .Eq (.ref l1) (.ref l2)) Q E s :=
  ke_eq_ints ⟨_, (N _ ha).1, rfl, _, rfl⟩ ⟨_, (N _ hb).1, rfl, _, rfl⟩ hi hj hu (by subst e; simpa using h)
theorem ne_two {l1 l2 : Addr} {a1 a2 b1 b2 : Int} {t1 t2 u1 u2 : Tok} {n1 n2 : Nat} (N : News h₀ L s.heap news) (ha : (l1, listOf #[.int a1 t1, .int a2 t2] n1) ∈ news) (hb : (l2, listOf #[.int b1 u1, .int b2 u2] n2) ∈ news) (e1 : a1 = b1) (e2 : a2 = b2) (hu : A.units + 64 < cLine) (h : Q (.bool false) s) :
    wpAny (model prog w) A (compareOp .NotEq (.ref l1) (.ref l2)) Q E s :=
  ne_ints (xs := [_, _]) (ys := [_, _]) N ha hb (.cons _ _ (.cons _ _ .nil)) (.cons _ _ (.cons _ _ .nil)) (by rw [e1, e2]) hu h
theorem eq_two {l1 l2 : Addr} {a1 a2 b1 b2 : Int} {t1 t2 u1 u2 : Tok} {n1 n2 : Nat} (N : News h₀ L s.heap news) (ha : (l1, listOf #[.int a1 t1, .int a2 t2] n1) ∈ news) (hb : (l2, listOf #[.int b1 u1, .int b2 u2] n2) ∈ news) (e1 : a1 = b1) (e2 : a2 = b2) (hu : A.units + 64 < cLine) (h : Q (.bool true) s) :
    wpAny (model prog w) A (compareOp .Eq (.ref l1) (.ref l2)) Q E s :=
  eq_ints (xs := [_, _]) (ys := [_, _]) N ha hb (.cons _ _ (.cons _ _ .nil)) (.cons _ _ (.cons _ _ .nil)) (by rw [e1, e2]) hu h
end
end Mine
namespace Mine
theorem smI_ring : smI ringI = true := by unfold ringI bp; decide +kernel
theorem PureOk.cntL {W : List Nat} (h : PureOk W) : ([0, 1, 2, 3, 4].map fun i => sumC (tabI (unf W tb0) i)) = [0, 1, 2, 3, 4].map fun i => if (partP (wc i) (shortest W)).isEmpty then 1 else 0 := by
  simp only [List.map_cons, List.map_nil, h.cnt 0 (by decide), h.cnt 1 (by decide), h.cnt 2 (by decide), h.cnt 3 (by decide), h.cnt 4 (by decide)]
theorem PureOk.p1 {W : List Nat} (h : PureOk W) : smI (pv W 1) = true := h.smp 1 (by decide)
theorem PureOk.p2 {W : List Nat} (h : PureOk W) : smI (pv W 2) = true := h.smp 2 (by decide)
theorem PureOk.p3 {W : List Nat} (h : PureOk W) : smI (pv W 3) = true := h.smp 3 (by decide)
theorem PureOk.p4 {W : List Nat} (h : PureOk W) : smI (pv W 4) = true := h.smp 4 (by decide)
theorem pow_base {prog : Program} {w : World} {A : Around} {E : Value → Shared → Prop} {s : Shared} {t u : Tok} {Q : Value → Shared → Prop} (h : Q (.int 1048576 s.toks) { s with toks := s.toks + 1 }) : wpAny (model prog w) A (binaryOp .Pow (.int 2 t) (.int 20 u)) Q E s :=
  PyProof.Rows.pow_int_small (by decide) (by decide) (by decide) (by simpa using h)
theorem mat_specW {w : World} {loose : List Str} {mean : ExcName → Option Value} {mg mb : Str → Option Value}
  {dp un : Nat} {gd : Option (List Code)} {cn : Str} {cs : Scope} {a : Addr} {ccd : Value} {cl : List (Str × Addr)} {outer : List Env} {A₀ : Around} {base h₀ : Heap} {L : Addr} {m : Str → Option Value} {news : List (Addr × Obj)} {s : Shared} {Q E : Value → Shared → Prop}
  {W : List Nat} {t u : Tok}
  (B : Below A₀ base outer h₀) (F : Fr h₀ L s.heap m) (X : (frag.heap_1 w.params).In h₀) (N : News h₀ L s.heap news) (T : Top topProg loose mean mg mb h₀) (hk : cs.kind = .function)
  (hP : PureOk W) (hdp : dp + 16 < recursionLimit) (hun : un + 100 < cLine) (h4 : ∀ k ∈ W, k ∈ [34, 92, 32, 10])
  (hret : ∀ D t1 t2 t3 t4 h' tk', Fr h₀ L h' m → News h₀ L h' ((D, ({ cls := .type "tuple", data := .seq #[.int (mx W 0) t1, .int (mx W 1) t2, .int (mx W 2) t3, .int (mx W 3) t4] } : Obj)) :: news) → Q (.ref D) { s with heap := h', toks := tk' }) :
  wpAny (model PySem.Challenge.rw_qc0004_01.row.prog w) (ktrTop dp un gd cn cs L a ccd cl outer) (call (.ref 115) [.str (Ls W) t, .int 1048576 u]) Q E s := by
  refine mat_spec B F X N T hk hdp hun h4 hP.m fun D t1 t2 t3 t4 h' tk' F' N' => ?_
  have := hret D t1 t2 t3 t4 h' tk' F'
  unfold mx at this
  exact this N'
end Mine
end
section
open PySem PySem.W PyProof.Rows PySem.Calls PySem.Spec PyProof.V
set_option maxRecDepth 100000
namespace Mine
/-! sums over int dicts -/
def lin (g : Int → Int) (c : List (Int × Int)) : Int := (c.map fun p => p.2 * g p.1).sum
def nrm (c : List (Int × Int)) : Nat := (c.map fun p => p.2.natAbs).sum
/-- the keys of a dict are distinct -/
def NK (c : List (Int × Int)) : Prop := (c.map (·.1)).Nodup
theorem lin_nil (g : Int → Int) : lin g [] = 0 := rfl
theorem lin_cons (g : Int → Int) (p : Int × Int) (c : List (Int × Int)) : lin g (p :: c) = p.2 * g p.1 + lin g c := by unfold lin; simp
theorem lin_append (g : Int → Int) (a b : List (Int × Int)) : lin g (a ++ b) = lin g a + lin g b := by
  induction a with
  | nil => simp [lin_nil]
  | cons p a ih => rw [List.cons_append, lin_cons, lin_cons, ih]; omega
theorem nrm_cons (p : Int × Int) (c : List (Int × Int)) : nrm (p :: c) = p.2.natAbs + nrm c := by unfold nrm; simp
theorem nrm_append (a b : List (Int × Int)) : nrm (a ++ b) = nrm a + nrm b := by unfold nrm; simp
theorem nrm_mem {c : List (Int × Int)} {p : Int × Int} (h : p ∈ c) : p.2.natAbs ≤ nrm c := by
  induction c with
  | nil => cases h
  | cons q c ih =>
    rw [nrm_cons]
    rcases List.mem_cons.mp h with rfl | h
    · omega
    · have := ih h; omega
theorem has_iff {c : List (Int × Int)} {k : Int} : kdfHas c k = true ↔ k ∈ c.map (·.1) := by
  unfold kdfHas
  simp only [List.any_eq_true, decide_eq_true_eq, List.mem_map]
theorem kp_new {c : List (Int × Int)} {k v : Int} (h : kdfHas c k = false) : kdfPut c k v = c ++ [(k, v)] := by
  unfold kdfPut
  unfold kdfHas at h
  rw [if_neg (by rw [h]; decide)]
theorem kp_keys {c : List (Int × Int)} {k v : Int} (h : kdfHas c k = true) : (kdfPut c k v).map (·.1) = c.map (·.1) := by
  unfold kdfPut
  unfold kdfHas at h
  rw [if_pos h, List.map_map]
  refine List.map_congr_left fun p _ => ?_
  show (if decide (p.1 = k) = true then (p.1, v) else p).1 = p.1
  split <;> rfl
theorem kp_nk {c : List (Int × Int)} {k v : Int} (h : NK c) : NK (kdfPut c k v) := by
  unfold NK at *
  cases e : kdfHas c k with
  | true => rw [kp_keys e]; exact h
  | false =>
    rw [kp_new e, List.map_append, List.nodup_append]
    refine ⟨h, by simp, ?_⟩
    intro a ha b hb
    simp only [List.map_cons, List.map_nil, List.mem_singleton] at hb
    intro hab
    rw [hab, hb] at ha
    have := has_iff.mpr ha
    rw [e] at this; cases this
/-- a store under a key that is there -/
theorem kp_has : ∀ {c : List (Int × Int)} {k : Int} (g : Int → Int) (v : Int), NK c → kdfHas c k = true → lin g (kdfPut c k (kdfLook c k 0 + v)) = lin g c + v * g k ∧ nrm (kdfPut c k (kdfLook c k 0 + v)) ≤ nrm c + v.natAbs
  | [], k, g, v, _, h => by simp [kdfHas] at h
  | p :: c, k, g, v, hn, h => by
    unfold NK at hn
    rw [List.map_cons, List.nodup_cons] at hn
    by_cases e : p.1 = k
    · have hl : kdfLook (p :: c) k 0 = p.2 := by unfold kdfLook; simp [e]
      have hc : ∀ x, c.map (fun p => if decide (p.1 = k) = true then (p.1, x) else p) = c := by
        intro x
        conv => rhs; rw [← List.map_id c]
        refine List.map_congr_left fun q hq => ?_
        have : ¬ q.1 = k := fun e2 => hn.1 (by rw [e, ← e2]; exact List.mem_map.mpr ⟨q, hq, rfl⟩)
        simp [this]
      have hp : ∀ x, kdfPut (p :: c) k x = (k, x) :: c := by
        intro x
        unfold kdfPut
        rw [if_pos (by simp [e]), List.map_cons, hc]
        simp [e]
      rw [hl, hp, lin_cons, lin_cons, nrm_cons, nrm_cons]
      refine ⟨?_, ?_⟩
      · show (p.2 + v) * g k + lin g c = p.2 * g p.1 + lin g c + v * g k
        rw [e, Int.add_mul]; omega
      · show (p.2 + v).natAbs + nrm c ≤ _
        have := Int.natAbs_add_le p.2 v
        omega
    · have hh : kdfHas c k = true := by
        unfold kdfHas at h ⊢
        simpa [e] using h
      have hl : kdfLook (p :: c) k 0 = kdfLook c k 0 := by unfold kdfLook; simp [e]
      have hp : ∀ x, kdfPut (p :: c) k x = p :: kdfPut c k x := by
        intro x
        unfold kdfHas at hh
        unfold kdfPut
        rw [if_pos hh, if_pos (by simp only [List.any_cons, hh, Bool.or_true]), List.map_cons]
        simp [e]
      obtain ⟨i1, i2⟩ := kp_has (c := c) (k := k) g v hn.2 hh
      rw [hl, hp, lin_cons, lin_cons, nrm_cons, nrm_cons, i1]
      exact ⟨by omega, by omega⟩
theorem kp_step {c : List (Int × Int)} {p : Int × Int} (g : Int → Int) (h : NK c) : NK (addStep c p) ∧ lin g (addStep c p) = lin g c + p.2 * g p.1 ∧ nrm (addStep c p) ≤ nrm c + p.2.natAbs ∧ ∀ k ∈ (addStep c p).map (·.1), k ∈ c.map (·.1) ∨ k = p.1 := by
  unfold addStep
  cases e : kdfHas c p.1 with
  | true =>
    rw [if_pos rfl]
    obtain ⟨a, b⟩ := kp_has g p.2 h e
    exact ⟨kp_nk h, a, b, fun k hk => .inl (by rw [kp_keys e] at hk; exact hk)⟩
  | false =>
    rw [if_neg (by decide)]
    refine ⟨kp_nk h, ?_, ?_, ?_⟩
    · rw [kp_new e, lin_append, lin_cons, lin_nil, Int.add_zero]
    · rw [kp_new e, nrm_append, nrm_cons]; simp [nrm]
    · intro k hk
      rw [kp_new e] at hk
      simpa using hk
theorem kp_go (g : Int → Int) : ∀ (b c : List (Int × Int)), NK c → NK (b.foldl addStep c) ∧ lin g (b.foldl addStep c) = lin g c + lin g b ∧ nrm (b.foldl addStep c) ≤ nrm c + nrm b ∧ ∀ k ∈ (b.foldl addStep c).map (·.1), k ∈ c.map (·.1) ∨ k ∈ b.map (·.1)
  | [], c, h => ⟨h, by rw [lin_nil]; simp, by simp, fun k hk => .inl hk⟩
  | p :: b, c, h => by
    obtain ⟨s1, s2, s3, s4⟩ := kp_step (p := p) g h
    obtain ⟨i1, i2, i3, i4⟩ := kp_go g b (addStep c p) s1
    rw [List.foldl_cons]
    refine ⟨i1, ?_, ?_, ?_⟩
    · rw [i2, s2, lin_cons]; omega
    · rw [nrm_cons]; omega
    · intro k hk
      rcases i4 k hk with hk | hk
      · rcases s4 k hk with hk | hk
        · exact .inl hk
        · exact .inr (by rw [List.map_cons, hk]; exact .head _)
      · exact .inr (by rw [List.map_cons]; exact .tail _ hk)
theorem putAll_id : ∀ (l acc : List (Int × Int)), NK (acc ++ l) → putAll acc l = acc ++ l
  | [], acc, _ => by simp [putAll]
  | p :: l, acc, h => by
    have e : kdfHas acc p.1 = false := by
      cases e : kdfHas acc p.1 with
      | false => rfl
      | true =>
        have := has_iff.mp e
        unfold NK at h
        rw [List.map_append, List.nodup_append] at h
        exact absurd rfl (h.2.2 _ this _ (by rw [List.map_cons]; exact .head _))
    show putAll (kdfPut acc p.1 p.2) l = _
    rw [kp_new e, putAll_id l _ (by simpa using h)]
    simp
theorem putAll_nil {l : List (Int × Int)} (h : NK l) : putAll [] l = l := putAll_id l [] h
theorem addC_facts (g : Int → Int) {a b : List (Int × Int)} (h : NK a) : NK (addC a b) ∧ lin g (addC a b) = lin g a + lin g b ∧ nrm (addC a b) ≤ nrm a + nrm b ∧ ∀ k ∈ (addC a b).map (·.1), k ∈ a.map (·.1) ∨ k ∈ b.map (·.1) := by
  unfold addC
  rw [putAll_nil h]
  exact kp_go g b a h
theorem nk_map {f : Int × Int → Int × Int} (d : Int) (hf : ∀ p, (f p).1 = p.1 + d) {c : List (Int × Int)} (h : NK c) : NK (c.map f) := by
  unfold NK at *
  rw [List.map_map]
  have : (Prod.fst ∘ f) = fun p : Int × Int => p.1 + d := funext hf
  rw [this]
  have e : (fun p : Int × Int => p.1 + d) = (fun k : Int => k + d) ∘ Prod.fst := rfl
  rw [e, ← List.map_map]
  unfold List.Nodup at *
  rw [List.pairwise_map]
  exact h.imp fun hab e => hab (by omega)
theorem lin_map {f : Int × Int → Int × Int} (d s : Int) (hf : ∀ p, f p = (p.1 + d, s * p.2)) (g : Int → Int) (c : List (Int × Int)) : lin g (c.map f) = s * lin (fun k => g (k + d)) c := by
  induction c with
  | nil => simp [lin_nil]
  | cons p c ih =>
    rw [List.map_cons, lin_cons, lin_cons, ih, hf, Int.mul_add, Int.mul_assoc]
theorem nrm_map {f : Int × Int → Int × Int} (hf : ∀ p, (f p).2.natAbs = p.2.natAbs) (c : List (Int × Int)) : nrm (c.map f) = nrm c := by
  unfold nrm
  rw [List.map_map]
  congr 1
  exact List.map_congr_left fun p _ => hf p
theorem lin_congr {g g' : Int → Int} {c : List (Int × Int)} (h : ∀ k ∈ c.map (·.1), g k = g' k) : lin g c = lin g' c := by
  unfold lin
  congr 1
  exact List.map_congr_left fun p hp => by rw [h _ (List.mem_map.mpr ⟨p, hp, rfl⟩)]
theorem lin_scale (x : Int) (g : Int → Int) (c : List (Int × Int)) : lin (fun k => x * g k) c = x * lin g c := by
  induction c with
  | nil => simp [lin_nil]
  | cons p c ih => rw [lin_cons, lin_cons, ih, Int.mul_add, Int.mul_left_comm]
end Mine
end
section
open PySem PySem.W PyProof.Rows PySem.Calls PySem.Spec PyProof.V
set_option maxRecDepth 100000
namespace Mine
/-! the tables' rounds -/
theorem nodup_len : ∀ (n : Nat) (l : List Int) (lo : Int), l.Nodup → (∀ k ∈ l, lo ≤ k ∧ k < lo + n) → l.length ≤ n
  | 0, [], _, _, _ => Nat.le_refl _
  | 0, k :: _, lo, _, h => by have := h k (.head _); omega
  | n + 1, l, lo, hn, h => by
    by_cases hm : lo + n ∈ l
    · have h1 := nodup_len n (l.erase (lo + n)) lo (hn.erase _) fun k hk => by
        have h2 := (hn.mem_erase_iff).mp hk
        have h3 := h k h2.2
        have h4 := h2.1
        constructor
        · omega
        · omega
      rw [List.length_erase_of_mem hm] at h1
      omega
    · have h1 := nodup_len n l lo hn fun k hk => by
        have h3 := h k hk
        have h4 : k ≠ lo + n := fun e => hm (e ▸ hk)
        constructor
        · omega
        · omega
      omega
def RowOk (R : Int) (B : Nat) (c : List (Int × Int)) : Prop := NK c ∧ (∀ k ∈ c.map (·.1), -R ≤ k ∧ k ≤ R) ∧ nrm c ≤ B
def TabOk (R : Int) (B : Nat) (t : Tab) : Prop := (ks t).Nodup ∧ ∀ p ∈ t, p.1 < 5 ∧ RowOk R B p.2
theorem RowOk.nil {R : Int} {B : Nat} : RowOk R B [] := ⟨by unfold NK; simp, (fun k hk => by simp at hk), Nat.zero_le _⟩
theorem RowOk.mono {R R' : Int} {B B' : Nat} {c : List (Int × Int)} (h : RowOk R B c) (hR : R ≤ R') (hB : B ≤ B') : RowOk R' B' c :=
  ⟨h.1, fun k hk => by have := h.2.1 k hk; constructor <;> omega, Nat.le_trans h.2.2 hB⟩
theorem TabOk.mono {R R' : Int} {B B' : Nat} {t : Tab} (h : TabOk R B t) (hR : R ≤ R') (hB : B ≤ B') : TabOk R' B' t :=
  ⟨h.1, fun p hp => ⟨(h.2 p hp).1, (h.2 p hp).2.mono hR hB⟩⟩
theorem RowOk.len {R : Nat} {B : Nat} {c : List (Int × Int)} (h : RowOk R B c) : c.length ≤ 2 * R + 1 := by
  have := nodup_len (2 * R + 1) (c.map (·.1)) (-R) h.1 fun k hk => by
    have := h.2.1 k hk
    constructor
    · omega
    · push_cast; omega
  simpa using this
theorem TabOk.small {R : Nat} {B : Nat} {t : Tab} (h : TabOk R B t) (hR : R ≤ 100) : smallT t = true := by
  unfold smallT
  simp only [Bool.and_eq_true, decide_eq_true_eq, List.all_eq_true]
  refine ⟨?_, fun p hp => ⟨(h.2 p hp).1, ?_⟩⟩
  · have := nodup_len 5 ((ks t).map (fun i : Nat => (i : Int))) 0 (by
      unfold List.Nodup
      rw [List.pairwise_map]
      exact h.1.imp fun hab e => hab (by omega)) fun k hk => by
        obtain ⟨i, hi, rfl⟩ := List.mem_map.mp hk
        obtain ⟨p, hp, rfl⟩ := List.mem_map.mp hi
        have := (h.2 p hp).1
        constructor <;> omega
    simpa [ks] using this
  · have := (h.2 p hp).2.len
    omega
theorem TabOk.row {R : Int} {B : Nat} {t : Tab} (h : TabOk R B t) (i : Nat) : RowOk R B (tabI t i) := by
  unfold tabI
  cases hl : lk t i with
  | none => exact .nil
  | some c => exact (h.2 _ (lk_mem hl)).2
theorem lk_upd (i : Nat) (c : List (Int × Int)) (j : Nat) : ∀ t : Tab, lk (upd i c t) j = if j = i then (lk t i).map fun _ => c else lk t j
  | [] => by unfold upd lk; split <;> rfl
  | p :: r => by
    unfold upd
    by_cases hp : p.1 = i
    · rw [if_pos hp]
      unfold lk
      by_cases hj : j = i
      · subst hj; simp [hp]
      · have h1 : ¬ p.1 = j := fun e => hj (by rw [← e, hp])
        rw [if_neg hj]
        simp only [if_neg h1]
        rw [lk_upd i c j r, if_neg hj]
    · rw [if_neg hp]
      unfold lk
      by_cases hj : j = i
      · subst hj
        rw [if_neg hp, if_pos rfl, if_neg hp, lk_upd j c j r, if_pos rfl]
      · rw [if_neg hj]
        by_cases h1 : p.1 = j
        · rw [if_pos h1, if_pos h1]
        · rw [if_neg h1, if_neg h1, lk_upd i c j r, if_neg hj]
theorem lk_end (i : Nat) (c : List (Int × Int)) (j : Nat) : ∀ t : Tab, lk (t ++ [(i, c)]) j = (lk t j).orElse fun _ => if i = j then some c else none
  | [] => by
    show lk [(i, c)] j = _
    unfold lk
    split <;> simp [*, lk]
  | p :: r => by
    rw [List.cons_append]
    unfold lk
    by_cases h1 : p.1 = j
    · rw [if_pos h1, if_pos h1]; rfl
    · rw [if_neg h1, if_neg h1]; exact lk_end i c j r
theorem lk_putT (t : Tab) (i : Nat) (c : List (Int × Int)) (j : Nat) : lk (putT t i c) j = if j = i then some c else lk t j := by
  unfold putT
  cases hs : (lk t i).isSome with
  | true =>
    rw [if_pos rfl, lk_upd]
    split
    · obtain ⟨x, hx⟩ := Option.isSome_iff_exists.mp hs
      rw [hx]; rfl
    · rfl
  | false =>
    rw [if_neg (by decide), lk_end]
    have hn : lk t i = none := by simpa using hs
    split
    · next e => subst e; rw [hn]; simp
    · next e =>
      rw [if_neg (Ne.symm e)]
      cases lk t j <;> rfl
theorem upd_mem {i : Nat} {c : List (Int × Int)} : ∀ {t : Tab} {p : Nat × List (Int × Int)}, p ∈ upd i c t → p ∈ t ∨ p = (i, c)
  | [], _, h => by cases h
  | q :: r, p, h => by
    unfold upd at h
    rcases List.mem_cons.mp h with h | h
    · split at h
      · next e => exact .inr (by rw [h, e])
      · exact .inl (by rw [h]; exact .head _)
    · rcases upd_mem h with h | h
      · exact .inl (.tail _ h)
      · exact .inr h
theorem putT_mem {t : Tab} {i : Nat} {c : List (Int × Int)} {p : Nat × List (Int × Int)} (h : p ∈ putT t i c) : p ∈ t ∨ p = (i, c) := by
  unfold putT at h
  split at h
  · exact upd_mem h
  · rcases List.mem_append.mp h with h | h
    · exact .inl h
    · exact .inr (List.mem_singleton.mp h)
theorem lk_none {t : Tab} {i : Nat} : (lk t i).isSome = false ↔ i ∉ ks t := by
  induction t with
  | nil => simp [lk, ks]
  | cons p r ih =>
    unfold lk
    by_cases h : p.1 = i
    · rw [if_pos h]; simp [ks, h]
    · rw [if_neg h, ih]; simp [ks, Ne.symm h]
theorem RowOk.add {R : Int} {A B : Nat} {a b : List (Int × Int)} (ha : RowOk R A a) (hb : RowOk R B b) : RowOk R (A + B) (addC a b) := by
  obtain ⟨h1, _, h3, h4⟩ := addC_facts (fun _ => 0) (a := a) (b := b) ha.1
  refine ⟨h1, fun k hk => ?_, by have := ha.2.2; have := hb.2.2; omega⟩
  rcases h4 k hk with h | h
  · exact ha.2.1 k h
  · exact hb.2.1 k h
theorem grow_ok {R : Int} {A B : Nat} {G : Tab} {i : Nat} {g : List (Int × Int)} (hG : TabOk R A G) (hi : i < 5) (hg : RowOk R B g) :
    TabOk R (A + B) (grow G i g) ∧ ∀ (f : Int → Int) (j : Nat), lin f (tabI (grow G i g) j) = lin f (tabI G j) + if j = i then lin f g else 0 := by
  unfold grow
  refine ⟨⟨?_, fun p hp => ?_⟩, fun f j => ?_⟩
  · rw [putT_ks]
    split
    · exact hG.1
    · next h =>
      have hn := lk_none.mp (by simpa using h)
      rw [List.nodup_append]
      refine ⟨hG.1, by simp, fun a ha b hb e => hn ?_⟩
      rw [List.mem_singleton.mp hb] at e
      rw [← e]; exact ha
  · rcases putT_mem hp with h | rfl
    · exact ⟨(hG.2 p h).1, (hG.2 p h).2.mono (Int.le_refl _) (by omega)⟩
    · exact ⟨hi, (hG.row i).add hg⟩
  · unfold tabI
    rw [lk_putT]
    by_cases e : j = i
    · subst e
      rw [if_pos rfl, if_pos rfl]
      exact (addC_facts f (hG.row j).1).2.1
    · rw [if_neg e, if_neg e]; omega
end Mine
end
section
open PySem PySem.W PyProof.Rows PySem.Calls PySem.Spec PyProof.V
set_option maxRecDepth 100000
namespace Mine
/-- the weight of a key: a power of b -/
def pw (b : Int) (n : Nat) (k : Int) : Int := b ^ (k + n).toNat
theorem pw_shift {b : Int} {n : Nat} {k d : Int} (h0 : -(n : Int) ≤ k) (hd : 0 ≤ 3 + d) : pw b (n + 3) (k + d) = b ^ (3 + d).toNat * pw b n k := by
  unfold pw
  rw [← Int.pow_add]
  congr 1
  push_cast
  omega
theorem lin_shift {b : Int} {n : Nat} {d : Int} {c : List (Int × Int)} {B : Nat} (h : RowOk n B c) (hd : 0 ≤ 3 + d) : lin (fun k => pw b (n + 3) (k + d)) c = b ^ (3 + d).toNat * lin (pw b n) c := by
  rw [← lin_scale]
  exact lin_congr fun k hk => pw_shift (h.2.1 k hk).1 hd
theorem keys_map {f : Int × Int → Int × Int} {d : Int} (hf : ∀ p, (f p).1 = p.1 + d) {c : List (Int × Int)} {R R' : Int} (h : ∀ k ∈ c.map (·.1), -R ≤ k ∧ k ≤ R) (h1 : R + d ≤ R') (h2 : R - d ≤ R') : ∀ k ∈ (c.map f).map (·.1), -R' ≤ k ∧ k ≤ R' := by
  intro k hk
  rw [List.map_map] at hk
  obtain ⟨p, hp, rfl⟩ := List.mem_map.mp hk
  have := h p.1 (List.mem_map.mpr ⟨p, hp, rfl⟩)
  have e := hf p
  show -R' ≤ (f p).1 ∧ (f p).1 ≤ R'
  constructor <;> omega
theorem row_map {f : Int × Int → Int × Int} {d : Int} (hf : ∀ p, (f p).1 = p.1 + d) (hn : ∀ p, (f p).2.natAbs = p.2.natAbs) {c : List (Int × Int)} {R R' : Int} {B : Nat} (h : RowOk R B c) (h1 : R + d ≤ R') (h2 : R - d ≤ R') : RowOk R' B (putAll [] (c.map f)) := by
  have hk : NK (c.map f) := nk_map d hf h.1
  rw [putAll_nil hk]
  exact ⟨hk, keys_map hf h.2.1 h1 h2, by rw [nrm_map hn]; exact h.2.2⟩
theorem lin_put {f : Int × Int → Int × Int} {d s : Int} (hf : ∀ p, f p = (p.1 + d, s * p.2)) (g : Int → Int) {c : List (Int × Int)} (h : NK c) : lin g (putAll [] (c.map f)) = s * lin (fun k => g (k + d)) c := by
  rw [putAll_nil (nk_map d (fun p => by rw [hf]) h), lin_map d s hf]
theorem shS_is (d : Int) (p : Int × Int) : shS d p = (p.1 + -d, 1 * p.2) := by unfold shS; rw [Int.one_mul]; rfl
theorem shK_is (d : Int) (p : Int × Int) : shK d p = (p.1 + d, 1 * p.2) := by unfold shK; rw [Int.one_mul]
theorem shN_is (d : Int) (p : Int × Int) : shN d p = (p.1 + d, -1 * p.2) := by unfold shN; rw [Int.neg_one_mul]
theorem shM_is (d : Int) (p : Int × Int) : shM d p = (p.1 + -d, -1 * p.2) := by unfold shM; rw [Int.neg_one_mul]; rfl
section
variable {n B : Nat} {st : Int} {c : List (Int × Int)}
theorem gain1_ok (h : RowOk n B c) (hst : st = 1 ∨ st = -1) : RowOk (n + 3 : Nat) B (gain1 st c) ∧ ∀ b, lin (pw b (n + 3)) (gain1 st c) = b ^ (3 + st).toNat * lin (pw b n) c := by
  refine ⟨row_map (R := n) (R' := ((n + 3 : Nat) : Int)) (d := st) (f := shK st) (fun _ => rfl) (fun _ => rfl) h (by push_cast; omega) (by push_cast; omega), fun b => ?_⟩
  unfold gain1
  rw [lin_put (shK_is st) _ h.1, Int.one_mul, lin_shift h (by omega)]
theorem join_ok (h : RowOk n B c) (hst : st = 1 ∨ st = -1) : RowOk (n + 1 : Nat) B (joinC st c) ∧ ∀ g, lin g (joinC st c) = lin (fun k => g (k + -st)) c := by
  refine ⟨row_map (R := n) (R' := ((n + 1 : Nat) : Int)) (d := -st) (f := shS st) (fun _ => rfl) (fun _ => rfl) h (by push_cast; omega) (by push_cast; omega), fun g => ?_⟩
  unfold joinC
  rw [lin_put (shS_is st) _ h.1, Int.one_mul]
theorem gain2_ok (i : Nat) (w : Bool) (h : RowOk n B c) (hst : st = 1 ∨ st = -1) : RowOk (n + 3 : Nat) (2 * B) (gain2 i w st c) ∧
    ∀ b, lin (pw b (n + 3)) (gain2 i w st c) = (if rg i w = true then -(b ^ (5 + -st).toNat) - b ^ (1 + -st).toNat else b ^ (3 + -st).toNat) * lin (pw b n) c := by
  obtain ⟨j1, j2⟩ := join_ok h hst
  unfold gain2
  cases rg i w with
  | false =>
    simp only [Bool.false_eq_true, if_false]
    refine ⟨j1.mono (by push_cast; omega) (by omega), fun b => ?_⟩
    rw [j2, lin_shift h (by omega)]
  | true =>
    simp only [if_true]
    have r1 : RowOk (n + 3 : Nat) B (putAll [] ((joinC st c).map (shN 2))) := row_map (d := 2) (fun _ => rfl) (fun p => Int.natAbs_neg _) j1 (by push_cast; omega) (by push_cast; omega)
    have r2 : RowOk (n + 3 : Nat) B (putAll [] ((joinC st c).map (shM 2))) := row_map (d := -2) (fun _ => rfl) (fun p => Int.natAbs_neg _) j1 (by push_cast; omega) (by push_cast; omega)
    refine ⟨(r1.add r2).mono (Int.le_refl _) (by omega), fun b => ?_⟩
    unfold ringC
    rw [(addC_facts _ r1.1).2.1, lin_put (shN_is 2) _ j1.1, lin_put (shM_is 2) _ j1.1, j2, j2]
    rw [show (fun k => pw b (n + 3) (k + -st + 2)) = fun k => pw b (n + 3) (k + (2 + -st)) from funext fun k => by rw [show k + -st + 2 = k + (2 + -st) from by omega]]
    rw [show (fun k => pw b (n + 3) (k + -st + -2)) = fun k => pw b (n + 3) (k + (-2 + -st)) from funext fun k => by rw [show k + -st + -2 = k + (-2 + -st) from by omega]]
    rw [lin_shift h (by omega), lin_shift h (by omega)]
    rw [show (3 + (2 + -st)).toNat = (5 + -st).toNat from by omega, show (3 + (-2 + -st)).toNat = (1 + -st).toNat from by omega]
    rw [Int.sub_mul, Int.neg_mul, Int.neg_mul, Int.neg_mul, Int.one_mul, Int.one_mul]
    omega
end
/-- what one turn of a round brings to a word -/
def brg (b : Int) (w : Bool) (st : Int) (X : Nat → Int) (i j : Nat) : Int := (if j = i then b ^ (3 + st).toNat * X i else 0) + if j = nx i w then (if rg i w = true then -(b ^ (5 + -st).toNat) - b ^ (1 + -st).toNat else b ^ (3 + -st).toNat) * X i else 0
theorem turns_ok {n B : Nat} {tb : Tab} {w : Bool} {st : Int} (hT : TabOk n B tb) (hst : st = 1 ∨ st = -1) (hn : n + 3 ≤ 100) : ∀ (l : List Nat) (A : Nat) (G : Tab), (∀ i ∈ l, i ∈ ks tb) → TabOk (n + 3 : Nat) A G →
    okR tb w st l G = true ∧ TabOk (n + 3 : Nat) (A + 3 * B * l.length) (l.foldl (oneW tb w st) G) ∧ ∀ b j, lin (pw b (n + 3)) (tabI (l.foldl (oneW tb w st) G) j) = lin (pw b (n + 3)) (tabI G j) + (l.map fun i => brg b w st (fun i => lin (pw b n) (tabI tb i)) i j).sum
  | [], A, G, _, hG => ⟨by unfold okR; exact hG.small hn, by simpa using hG, fun b j => by simp⟩
  | i :: l, A, G, hl, hG => by
    have hi := hl i (.head _)
    obtain ⟨p, hp, hpi⟩ := List.mem_map.mp hi
    have hi5 : i < 5 := hpi ▸ (hT.2 p hp).1
    obtain ⟨c, hc⟩ : ∃ c, lk tb i = some c := by
      cases h : lk tb i with
      | some c => exact ⟨c, rfl⟩
      | none => exact absurd hi (lk_none.mp (by rw [h]; rfl))
    have hti : tabI tb i = c := by unfold tabI; rw [hc]; rfl
    have hr : RowOk n B c := hti ▸ hT.row i
    obtain ⟨a1, a2⟩ := gain1_ok hr hst
    obtain ⟨b1, b2⟩ := gain2_ok i w hr hst
    obtain ⟨g1, g2⟩ := grow_ok hG hi5 a1
    obtain ⟨g3, g4⟩ := grow_ok g1 (nx_lt (b := w) hi5) b1
    have ho : oneW tb w st G i = grow (grow G i (gain1 st c)) (nx i w) (gain2 i w st c) := by unfold oneW; rw [hc]
    obtain ⟨k1, k2, k3⟩ := turns_ok hT hst hn l (A + 3 * B) (oneW tb w st G i) (fun i hi => hl i (.tail _ hi)) (by rw [ho]; exact g3.mono (Int.le_refl _) (by omega))
    refine ⟨?_, ?_, fun b j => ?_⟩
    · unfold okR
      rw [hc]
      simp only [Bool.and_eq_true, decide_eq_true_eq]
      exact ⟨⟨⟨hG.small hn, g1.small hn⟩, hi5⟩, k1⟩
    · rw [List.foldl_cons]
      refine k2.mono (Int.le_refl _) ?_
      rw [List.length_cons, Nat.mul_add]; omega
    · rw [List.foldl_cons, k3, ho, g4, g2, a2, b2, List.map_cons, List.sum_cons]
      unfold brg
      simp only [hti]
      omega
theorem sum_five {F : Nat → Int} : ∀ {l : List Nat}, l.Nodup → (∀ i ∈ l, i < 5) → (l.map F).sum = ([0, 1, 2, 3, 4].map fun i => if i ∈ l then F i else 0).sum
  | [], _, _ => by simp
  | i :: l, hn, h => by
    rw [List.nodup_cons] at hn
    have hi := h i (.head _)
    rw [List.map_cons, List.sum_cons, sum_five hn.2 fun i hi => h i (.tail _ hi)]
    have e : ∀ j, (if j ∈ i :: l then F j else 0) = (if j = i then F i else 0) + if j ∈ l then F j else 0 := by
      intro j
      by_cases hj : j = i
      · subst hj
        rw [if_pos (.head _), if_pos rfl, if_neg hn.1]; omega
      · rw [if_neg hj]
        by_cases hm : j ∈ l
        · rw [if_pos hm, if_pos (.tail _ hm)]; omega
        · rw [if_neg hm, if_neg (by simp [hj, hm])]; omega
    simp only [e, List.map_cons, List.map_nil, List.sum_cons, List.sum_nil]
    have : i = 0 ∨ i = 1 ∨ i = 2 ∨ i = 3 ∨ i = 4 := by omega
    rcases this with rfl | rfl | rfl | rfl | rfl <;> simp <;> omega
/-- one round -/
theorem rnd_ok {n B : Nat} {tb : Tab} (w : Bool) {st : Int} (hT : TabOk n B tb) (hst : st = 1 ∨ st = -1) (hn : n + 3 ≤ 100) :
    okR tb w st (ks tb) [] = true ∧ TabOk (n + 3 : Nat) (15 * B) (rnd tb w st) ∧ ∀ b j, lin (pw b (n + 3)) (tabI (rnd tb w st) j) = ([0, 1, 2, 3, 4].map fun i => brg b w st (fun i => lin (pw b n) (tabI tb i)) i j).sum := by
  have h0 : TabOk (n + 3 : Nat) 0 [] := ⟨List.nodup_nil, fun _ h => by cases h⟩
  obtain ⟨k1, k2, k3⟩ := turns_ok (w := w) hT hst hn (ks tb) 0 [] (fun _ h => h) h0
  refine ⟨k1, k2.mono (Int.le_refl _) ?_, fun b j => ?_⟩
  · have hl : (ks tb).length ≤ 5 := by
      have := (hT.small (by omega)); have := smallT.len this; simpa [ks] using this
    have : 3 * B * (ks tb).length ≤ 3 * B * 5 := Nat.mul_le_mul_left _ hl
    omega
  · have := k3 b j
    unfold rnd
    rw [this]
    have e0 : lin (pw b (n + 3)) (tabI [] j) = 0 := rfl
    rw [e0, Int.zero_add, sum_five hT.1 fun i hi => by
      obtain ⟨p, hp, rfl⟩ := List.mem_map.mp hi
      exact (hT.2 p hp).1]
    congr 1
    refine List.map_congr_left fun i _ => ?_
    by_cases hi : i ∈ ks tb
    · rw [if_pos hi]
    · rw [if_neg hi]
      have : lin (pw b n) (tabI tb i) = 0 := by
        have := lk_none.mpr hi
        unfold tabI
        cases h : lk tb i with
        | none => rfl
        | some c => rw [h] at this; cases this
      unfold brg
      simp only [this, Int.mul_zero, ite_self, Int.add_zero]
end Mine
end
section
open PySem PySem.W PyProof.Rows PySem.Calls PySem.Spec PyProof.V
set_option maxRecDepth 100000
namespace Mine
abbrev V5 := Int × Int × Int × Int × Int
def vOf (b : Int) (n : Nat) (tb : Tab) : V5 := (lin (pw b n) (tabI tb 0), lin (pw b n) (tabI tb 1), lin (pw b n) (tabI tb 2), lin (pw b n) (tabI tb 3), lin (pw b n) (tabI tb 4))
def stepV (a d r : Int) (w : Bool) (x : V5) : V5 :=
  if w then (a * x.1, a * x.2.1 + d * x.1 + r * x.2.1 + d * x.2.2.2.1, a * x.2.2.1, a * x.2.2.2.1, a * x.2.2.2.2 + d * x.2.2.1 + r * x.2.2.2.2)
  else (a * x.1, a * x.2.1, a * x.2.2.1 + d * x.1 + r * x.2.2.1 + d * x.2.2.2.2, a * x.2.2.2.1 + d * x.2.1 + r * x.2.2.2.1, a * x.2.2.2.2)
def stepC (b : Int) (x : V5) (k : Nat) : V5 := stepV (b ^ (3 + stOf k).toNat) (b ^ (3 + -stOf k).toNat) (-(b ^ (5 + -stOf k).toNat) - b ^ (1 + -stOf k).toNat) (bOf k) x
theorem stOf_one (k : Nat) : stOf k = 1 ∨ stOf k = -1 := by unfold stOf; split <;> simp
theorem vec_step {n B : Nat} {tb : Tab} (k : Nat) (hT : TabOk n B tb) (hn : n + 3 ≤ 100) (b : Int) : vOf b (n + 3) (rnd tb (bOf k) (stOf k)) = stepC b (vOf b n tb) k := by
  have h := (rnd_ok (bOf k) hT (stOf_one k) hn).2.2 b
  unfold vOf stepC stepV
  rw [h 0, h 1, h 2, h 3, h 4]
  unfold brg
  cases bOf k with
  | true => simp [nx, rg]; omega
  | false => simp [nx, rg]; omega
theorem unf_vec : ∀ (W : List Nat) {n B : Nat} {tb : Tab}, TabOk n B tb → n + 3 * W.length ≤ 100 →
    okU W tb = true ∧ TabOk (n + 3 * W.length : Nat) (15 ^ W.length * B) (unf W tb) ∧ ∀ b, vOf b (n + 3 * W.length) (unf W tb) = W.foldl (stepC b) (vOf b n tb)
  | [], n, B, tb, hT, hn => ⟨by unfold okU; exact hT.small (by omega), by simpa [unf] using hT, fun b => rfl⟩
  | k :: W, n, B, tb, hT, hn => by
    rw [List.length_cons] at hn
    obtain ⟨h1, h2, _⟩ := rnd_ok (bOf k) hT (stOf_one k) (by omega)
    obtain ⟨i1, i2, i3⟩ := unf_vec W h2 (by omega)
    have e : n + 3 * (k :: W).length = n + 3 + 3 * W.length := by rw [List.length_cons]; omega
    refine ⟨?_, ?_, fun b => ?_⟩
    · unfold okU
      simp only [Bool.and_eq_true]
      exact ⟨⟨hT.small (by omega), h1⟩, i1⟩
    · rw [e, List.length_cons, Nat.pow_succ, Nat.mul_assoc]
      exact i2
    · rw [e, List.foldl_cons, ← vec_step k hT (by omega)]
      exact i3 b
theorem tb0_ok : TabOk (0 : Nat) 1 tb0 := by
  refine ⟨by decide, fun p hp => ?_⟩
  simp only [tb0, List.mem_singleton] at hp
  subst hp
  refine ⟨by decide, by unfold NK; simp, fun k hk => ?_, by decide⟩
  simp at hk
  subst hk
  decide
theorem vOf_tb0 (b : Int) : vOf b 0 tb0 = (1, 0, 0, 0, 0) := by
  unfold vOf
  rw [show tabI tb0 0 = [(0, 1)] from rfl, show tabI tb0 1 = [] from rfl, show tabI tb0 2 = [] from rfl, show tabI tb0 3 = [] from rfl, show tabI tb0 4 = [] from rfl]
  simp only [lin_cons, lin_nil]
  unfold pw
  simp
/-- the exchanges of three strands -/
def mvF (f : Nat → Bool) (l : List Nat) : Int × Int × Int := l.foldl (fun p k => if f k then (p.2.1, p.1, p.2.2) else (p.1, p.2.2, p.2.1)) (0, 1, 2)
theorem mv_go {lo : Str} {f : Nat → Bool} : ∀ (l : List Nat) (p : Int × Int × Int), (∀ k ∈ l, inB lo k = f k) → l.foldl (mvStep lo) p = l.foldl (fun p k => if f k then (p.2.1, p.1, p.2.2) else (p.1, p.2.2, p.2.1)) p
  | [], _, _ => rfl
  | k :: l, p, h => by
    rw [List.foldl_cons, List.foldl_cons, mv_go l _ fun k hk => h k (.tail _ hk)]
    congr 1
    unfold mvStep
    rw [h k (.head _)]
theorem mv_is {lo : Str} {f : Nat → Bool} {l : List Nat} (h : ∀ k ∈ l, inB lo k = f k) : mvL lo l = mvF f l := mv_go l _ h
theorem inB_e : ∀ w ∈ shortC, ∀ k ∈ w, inB (Str.ofString "e") k = (k == 101) := by decide +kernel
def shF (W : List Nat) : List (List Nat) := shortC.filter fun w => mvF (· == 101) w == mvF bOf W
theorem sh_is {W : List Nat} (h4 : ∀ k ∈ W, k ∈ [34, 92, 32, 10]) : (shortC.filter fun w => mvL (Str.ofString "e") w == mvL (Str.ofString "\"\\") W) = shF W := by
  unfold shF
  refine List.filter_congr fun w hw => ?_
  rw [mv_is (fun k hk => inB_e w hw k hk), mv_is (f := bOf) fun k hk => inB_hook (h4 k hk)]
def smF (x : Int) : Bool := Nat.ble x.natAbs (2 ^ 1000)
/-- all that is asked of a word, by its vectors -/
def okW (W : List Nat) : Bool :=
  match W.foldl (stepC 1048576) (1, 0, 0, 0, 0), W.foldl (stepC 1) (1, 0, 0, 0, 0), matL W (1, 0, 0, 1), shF W with
  | (v0, v1, v2, v3, v4), (u0, u1, u2, u3, u4), (p, q, r, s), sh :: _ =>
    let c := fun i => if (partP (wc i) sh).isEmpty then (1 : Int) else 0
    let a := (W.map stOf).sum
    okM W (1, 0, 0, 1) && decide (u0 = c 0) && decide (u1 = c 1) && decide (u2 = c 2) && decide (u3 = c 3) && decide (u4 = c 4) &&
    smF v0 && smF v1 && smF v2 && smF v3 && smF v4 && smF (v0 + v3) && smF (v0 + v4) && smF p && smF q && smF r && smF s &&
    decide (0 ≤ 15 + a) && decide (15 + a ≤ 100) && decide (v0 = 1048576 ^ (15 + a).toNat) &&
    decide (1048576 ^ 2 * p = 1048576 ^ 2 * (v0 + v3) + (-(1048576 ^ 4) - 1) * v1) && decide (1048576 ^ 2 * q = 1048576 ^ 2 * v1 + (-(1048576 ^ 4) - 1) * v3) &&
    decide (1048576 ^ 2 * r = 1048576 ^ 2 * v2 + (-(1048576 ^ 4) - 1) * v4) && decide (1048576 ^ 2 * s = 1048576 ^ 2 * (v0 + v4) + (-(1048576 ^ 4) - 1) * v2)
  | _, _, _, [] => false
end Mine
end
section
open PySem PySem.W PyProof.Rows PySem.Calls PySem.Spec PyProof.V
set_option maxRecDepth 100000
namespace Mine
theorem str_app (x y : Str) : (x ++ y).cps.toList = x.cps.toList ++ y.cps.toList := by
  show (x.cps ++ y.cps).toList = _
  simp
theorem str_ext {x y : Str} (h : x.cps.toList = y.cps.toList) : x = y := by
  cases x; cases y
  simp only [Str.mk.injEq] at *
  exact Array.toList_inj.mp h
theorem join_list : ∀ parts : List Str, (Str.join (Str.ofString "") parts).cps.toList = parts.flatMap fun p => p.cps.toList
  | [] => rfl
  | [x] => by simp [Str.join]
  | x :: y :: r => by
    show (x ++ Str.ofString "" ++ Str.join (Str.ofString "") (y :: r)).cps.toList = _
    rw [str_app, str_app, join_list (y :: r)]
    have : (Str.ofString "").cps.toList = [] := by decide +kernel
    rw [this]
    simp
theorem jn_list (parts : List Str) : (jn parts).cps.toList = parts.flatMap fun p => p.cps.toList := by
  unfold jn Txt.join
  rw [StrLaws.glued_eq_join, join_list]
def qc (k : Nat) : List Nat := if bOf k then [92, k] else [k]
def bc (k : Nat) : List Nat := [92, k]
theorem wr_q (W : List Nat) : (wrS true W).cps.toList = 34 :: (W.flatMap qc ++ [34, 9]) := by
  unfold wrS
  rw [if_pos rfl, str_app, str_app, jn_list]
  have h1 : (Str.ofString "\"").cps.toList = [34] := by decide +kernel
  have h2 : (Str.ofString "\"\t").cps.toList = [34, 9] := by decide +kernel
  rw [h1, h2, List.flatMap_map]
  have h3 : (fun k => (gQ k).cps.toList) = qc := funext fun k => by unfold gQ qc; split <;> rfl
  rw [h3]
  simp
theorem wr_b (W : List Nat) : (wrS false W).cps.toList = W.flatMap bc ++ [13] := by
  unfold wrS
  rw [if_neg (by decide), str_app, jn_list]
  have h1 : (Str.ofString "\r").cps.toList = [13] := by decide +kernel
  rw [h1, List.flatMap_map]
  have h3 : (fun k => (gB k).cps.toList) = bc := funext fun k => by unfold gB bc; rfl
  rw [h3]
theorem cnt_app (c : Nat) : ∀ a b : List Nat, cnt c (a ++ b) = cnt c a + cnt c b
  | [], b => by rw [cnt_nil]; simp
  | k :: a, b => by rw [List.cons_append, cnt_cons, cnt_cons, cnt_app c a b]; omega
theorem ls_cons (tok : Str) (k : Nat) (W : List Nat) : tok ++ ⟨#[k]⟩ ++ Ls W = tok ++ Ls (k :: W) := by
  refine str_ext ?_
  rw [str_app, str_app, str_app]
  simp
theorem s4_cases {k : Nat} (h : k ∈ [34, 92, 32, 10]) : k = 34 ∨ k = 92 ∨ k = 32 ∨ k = 10 := by simpa using h
theorem quo_plain {k : Nat} {r : List Nat} {tok : Str} {ln : Int} (h1 : ¬ k = 34) (h2 : ¬ k = 92) : quo (k :: r) tok ln = quo r (tok ++ ⟨#[k]⟩) (lnUp k ln) := by
  cases r <;> simp [quo, h1, h2]
theorem quo_go : ∀ (W : List Nat) (tok : Str) (ln : Int), (∀ k ∈ W, k ∈ [34, 92, 32, 10]) → quo (W.flatMap qc ++ [34, 9]) tok ln = some (tok ++ Ls W, [9], ln + cnt 10 (W.flatMap qc))
  | [], tok, ln, _ => by
    show quo [34, 9] tok ln = _
    unfold quo
    rw [if_pos rfl]
    have : tok ++ Ls [] = tok := str_ext (by rw [str_app]; simp)
    rw [this, List.flatMap_nil, cnt_nil]
    simp
  | k :: W, tok, ln, h => by
    have ih := fun tok ln => quo_go W tok ln fun k hk => h k (.tail _ hk)
    rw [List.flatMap_cons, cnt_app]
    rcases s4_cases (h k (.head _)) with rfl | rfl | rfl | rfl
    · show quo (92 :: 34 :: (W.flatMap qc ++ [34, 9])) tok ln = _
      rw [quo, if_neg (by decide), if_pos rfl]
      show quo _ _ _ = _
      rw [ih, ls_cons]
      have : lnUp 34 ln + cnt 10 (W.flatMap qc) = ln + (cnt 10 (qc 34) + cnt 10 (W.flatMap qc)) := by
        show ln + _ = ln + (0 + _)
        omega
      rw [this]
    · show quo (92 :: 92 :: (W.flatMap qc ++ [34, 9])) tok ln = _
      rw [quo, if_neg (by decide), if_pos rfl]
      show quo _ _ _ = _
      rw [ih, ls_cons]
      have : lnUp 92 ln + cnt 10 (W.flatMap qc) = ln + (cnt 10 (qc 92) + cnt 10 (W.flatMap qc)) := by
        show ln + _ = ln + (0 + _)
        omega
      rw [this]
    · show quo (32 :: (W.flatMap qc ++ [34, 9])) tok ln = _
      rw [quo_plain (by decide) (by decide), ih, ls_cons]
      have : lnUp 32 ln + cnt 10 (W.flatMap qc) = ln + (cnt 10 (qc 32) + cnt 10 (W.flatMap qc)) := by
        show ln + _ = ln + (0 + _)
        omega
      rw [this]
    · show quo (10 :: (W.flatMap qc ++ [34, 9])) tok ln = _
      rw [quo_plain (by decide) (by decide), ih, ls_cons]
      have : lnUp 10 ln + cnt 10 (W.flatMap qc) = ln + (cnt 10 (qc 10) + cnt 10 (W.flatMap qc)) := by
        show ln + 1 + _ = ln + (1 + _)
        omega
      rw [this]
theorem bare_go : ∀ (W : List Nat) (tok : Str) (ln : Int), (∀ k ∈ W, k ∈ [34, 92, 32, 10]) → bare (W.flatMap bc ++ [13]) tok ln = some (tok ++ Ls W, [], ln + cnt 10 (W.flatMap bc))
  | [], tok, ln, _ => by
    show bare [13] tok ln = _
    unfold bare
    rw [if_pos (by decide)]
    have : tok ++ Ls [] = tok := str_ext (by rw [str_app]; simp)
    rw [this, List.flatMap_nil, cnt_nil]
    show some (tok, [], ln) = _
    simp
  | k :: W, tok, ln, h => by
    have ih := fun tok ln => bare_go W tok ln fun k hk => h k (.tail _ hk)
    rw [List.flatMap_cons, cnt_app]
    show bare (92 :: k :: (W.flatMap bc ++ [13])) tok ln = _
    rw [bare, if_neg (by decide), if_pos rfl]
    show bare _ _ _ = _
    rw [ih, ls_cons]
    have : lnUp k ln + cnt 10 (W.flatMap bc) = ln + (cnt 10 (bc k) + cnt 10 (W.flatMap bc)) := by
      rcases s4_cases (h k (.head _)) with rfl | rfl | rfl | rfl
      · show ln + _ = ln + (0 + _); omega
      · show ln + _ = ln + (0 + _); omega
      · show ln + _ = ln + (0 + _); omega
      · show ln + 1 + _ = ln + (1 + _); omega
    rw [this]
theorem nl_is : Str.ofString "\n" = ⟨#[10]⟩ := by decide +kernel
theorem qc_in {W : List Nat} (h : ∀ k ∈ W, k ∈ [34, 92, 32, 10]) : ∀ k ∈ W.flatMap qc, k ∈ [9, 10, 13, 32, 34, 92] := by
  intro k hk0
  obtain ⟨j, hj, hk⟩ := List.mem_flatMap.mp hk0
  clear hk0
  rcases s4_cases (h j hj) with rfl | rfl | rfl | rfl <;> (revert hk; revert k; decide)
theorem bc_in {W : List Nat} (h : ∀ k ∈ W, k ∈ [34, 92, 32, 10]) : ∀ k ∈ W.flatMap bc, k ∈ [9, 10, 13, 32, 34, 92] := by
  intro k hk0
  obtain ⟨j, hj, hk⟩ := List.mem_flatMap.mp hk0
  clear hk0
  rcases s4_cases (h j hj) with rfl | rfl | rfl | rfl <;> (revert hk; revert k; decide)
theorem tok_q {W : List Nat} (h : ∀ k ∈ W, k ∈ [34, 92, 32, 10]) : tokB true W = true := by
  have e0 : (Str.ofString "").cps.toList = [] := by decide +kernel
  have e : (Str.ofString "" ++ Ls W : Str) = Ls W := str_ext (by rw [str_app, e0]; simp)
  have h1 : tokOf (34 :: (W.flatMap qc ++ [34, 9])) 1 = some (Ls W, [9], 1 + cnt 10 (W.flatMap qc)) := by
    unfold tokOf
    rw [if_neg (by decide), if_pos rfl, quo_go W _ _ h, e]
  have h2 : tokOf [9] (1 + cnt 10 (W.flatMap qc)) = some (Str.ofString "", [], 1 + cnt 10 (W.flatMap qc)) := by
    rw [tokOf, if_pos (by decide), tokOf]; rfl
  unfold tokB
  simp only [wr_q, h1, h2, nl_is, Bool.and_eq_true, List.all_eq_true, decide_eq_true_eq]
  refine ⟨⟨⟨⟨⟨?_, ?_⟩, ?_⟩, by decide⟩, by decide⟩, ?_⟩
  · intro k hk0
    rcases List.mem_cons.mp hk0 with rfl | hk
    · decide
    · rcases List.mem_append.mp hk with hk2 | hk2
      · exact qc_in h k hk2
      · clear hk hk0; revert hk2; revert k; decide
  · exact beq_self_eq_true _
  · exact beq_self_eq_true _
  · rw [count_cnt, wr_q, cnt_cons, cnt_app]
    show _ = 1 + (0 + (_ + 0))
    omega
theorem tok_b {k : Nat} {W : List Nat} (h : ∀ j ∈ k :: W, j ∈ [34, 92, 32, 10]) : tokB false (k :: W) = true := by
  have e0 : (Str.ofString "").cps.toList = [] := by decide +kernel
  have e : (Str.ofString "" ++ ⟨#[k]⟩ ++ Ls W : Str) = Ls (k :: W) := str_ext (by rw [str_app, str_app, e0]; simp)
  have hu : ∀ n : Int, lnUp k 1 + n = 1 + (cnt 10 (bc k) + n) := by
    intro n
    rcases s4_cases (h k (.head _)) with rfl | rfl | rfl | rfl
    · show 1 + n = 1 + (0 + n); omega
    · show 1 + n = 1 + (0 + n); omega
    · show 1 + n = 1 + (0 + n); omega
    · show 1 + 1 + n = 1 + (1 + n); omega
  have h1 : tokOf ((k :: W).flatMap bc ++ [13]) 1 = some (Ls (k :: W), [], 1 + cnt 10 ((k :: W).flatMap bc)) := by
    rw [List.flatMap_cons]
    show tokOf (92 :: k :: (W.flatMap bc ++ [13])) 1 = _
    rw [tokOf, if_neg (by decide), if_neg (by decide), if_pos rfl]
    show bare _ _ _ = _
    rw [bare_go W _ _ fun j hj => h j (.tail _ hj), e, hu, cnt_app]
  have h2 : tokOf [] (1 + cnt 10 ((k :: W).flatMap bc)) = some (Str.ofString "", [], 1 + cnt 10 ((k :: W).flatMap bc)) := by
    rw [tokOf]
  unfold tokB
  simp only [wr_b, h1, h2, nl_is, Bool.and_eq_true, List.all_eq_true, decide_eq_true_eq]
  refine ⟨⟨⟨⟨⟨?_, ?_⟩, ?_⟩, by decide⟩, ?_⟩, ?_⟩
  · intro j hj0
    rcases List.mem_append.mp hj0 with hj | hj
    · exact bc_in h j hj
    · clear hj0; revert hj; revert j; decide
  · exact beq_self_eq_true _
  · exact beq_self_eq_true _
  · intro j hj; cases hj
  · rw [count_cnt, wr_b, cnt_app]
    show _ = 1 + (_ + 0)
    omega
end Mine
end
section
open PySem PySem.W PyProof.Rows PySem.Calls PySem.Spec PyProof.V
set_option maxRecDepth 100000
namespace Mine
def all3 (a b : Nat) : Bool := S4.all fun c => S4.all fun d => S4.all fun e => okW [a, b, c, d, e]
theorem ok_34_34 : all3 34 34 = true := by decide +kernel
theorem ok_34_92 : all3 34 92 = true := by decide +kernel
theorem ok_34_32 : all3 34 32 = true := by decide +kernel
theorem ok_34_10 : all3 34 10 = true := by decide +kernel
theorem ok_92_34 : all3 92 34 = true := by decide +kernel
theorem ok_92_92 : all3 92 92 = true := by decide +kernel
theorem ok_92_32 : all3 92 32 = true := by decide +kernel
theorem ok_92_10 : all3 92 10 = true := by decide +kernel
theorem ok_32_34 : all3 32 34 = true := by decide +kernel
theorem ok_32_92 : all3 32 92 = true := by decide +kernel
theorem ok_32_32 : all3 32 32 = true := by decide +kernel
theorem ok_32_10 : all3 32 10 = true := by decide +kernel
theorem ok_10_34 : all3 10 34 = true := by decide +kernel
theorem ok_10_92 : all3 10 92 = true := by decide +kernel
theorem ok_10_32 : all3 10 32 = true := by decide +kernel
theorem ok_10_10 : all3 10 10 = true := by decide +kernel
theorem okW_all {a b c d e : Nat} (ha : a ∈ S4) (hb : b ∈ S4) (hc : c ∈ S4) (hd : d ∈ S4) (he : e ∈ S4) : okW [a, b, c, d, e] = true := by
  have h : all3 a b = true := by
    rcases s4_cases ha with rfl | rfl | rfl | rfl <;> rcases s4_cases hb with rfl | rfl | rfl | rfl
    · exact ok_34_34
    · exact ok_34_92
    · exact ok_34_32
    · exact ok_34_10
    · exact ok_92_34
    · exact ok_92_92
    · exact ok_92_32
    · exact ok_92_10
    · exact ok_32_34
    · exact ok_32_92
    · exact ok_32_32
    · exact ok_32_10
    · exact ok_10_34
    · exact ok_10_92
    · exact ok_10_32
    · exact ok_10_10
  unfold all3 at h
  exact List.all_eq_true.mp (List.all_eq_true.mp (List.all_eq_true.mp h c hc) d hd) e he
theorem bits_small {x : Int} (h : smF x = true) : smI x = true := by
  unfold smF at h
  have h := Nat.le_of_ble_eq_true h
  unfold smI Builtin.Int.intBits
  refine decide_eq_true ?_
  by_cases h0 : x = 0
  · subst h0; decide
  · have h1 : ¬ (x == 0) = true := by simpa using h0
    rw [if_neg h1]
    have h2 : x.natAbs ≠ 0 := by omega
    have h3 : x.natAbs < 2 ^ 1001 := Nat.lt_of_le_of_lt h (Nat.pow_lt_pow_right (by decide) (by decide))
    have := (Nat.log2_lt h2).mpr h3
    omega
theorem nrm_small {c : List (Int × Int)} (h : nrm c ≤ 759375) {p : Int × Int} (hp : p ∈ c) : smI p.2 = true := by
  refine bits_small ?_
  unfold smF
  refine Nat.ble_eq_true_of_le ?_
  have := nrm_mem hp
  have h2 : 759375 ≤ 2 ^ 1000 := by decide +kernel
  omega
theorem pw_one (n : Nat) (k : Int) : pw 1 n k = 1 := by unfold pw; exact Int.one_pow ..
theorem sum_lin (c : List (Int × Int)) (n : Nat) : sumC c = lin (pw 1 n) c := by
  unfold sumC lin
  congr 1
  refine List.map_congr_left fun p _ => ?_
  rw [pw_one, Int.mul_one]
theorem poly_lin (c : List (Int × Int)) : polyC c = lin (pw 1048576 15) c := by
  unfold polyC lin bq pw bp
  rfl
theorem pure_ok {a b c d e : Nat} (h4 : ∀ k ∈ [a, b, c, d, e], k ∈ [34, 92, 32, 10]) : PureOk [a, b, c, d, e] := by
  have hw := okW_all (h4 a (by simp)) (h4 b (by simp)) (h4 c (by simp)) (h4 d (by simp)) (h4 e (by simp))
  generalize hW : [a, b, c, d, e] = W at *
  have hlen : W.length = 5 := by rw [← hW]; rfl
  obtain ⟨u1, u2, u3⟩ := unf_vec W tb0_ok (by rw [hlen]; decide)
  rw [hlen] at u2 u3
  have hP := u3 1048576
  have hS := u3 1
  rw [vOf_tb0] at hP hS
  have hrow : ∀ i, RowOk (15 : Nat) 759375 (tabI (unf W tb0) i) := fun i => u2.row i
  have hsh := sh_is h4
  unfold vOf at hP hS
  unfold okW at hw
  rw [← hP, ← hS] at hw
  cases hc : shF W with
  | nil => rw [hc] at hw; cases hM : matL W (1, 0, 0, 1); rw [hM] at hw; cases hw
  | cons sh rest =>
    obtain ⟨p, q, r, s, hM⟩ : ∃ p q r s, matL W (1, 0, 0, 1) = (p, q, r, s) := ⟨_, _, _, _, rfl⟩
    rw [hc, hM] at hw
    have hshort : shortest W = sh := by unfold shortest; rw [hsh, hc]; rfl
    have hah : aheadC W = (W.map stOf).sum := by unfold aheadC; rfl
    have hpv : ∀ i, pv W i = lin (pw 1048576 15) (tabI (unf W tb0) i) := fun i => by unfold pv; exact poly_lin _
    have hmx : mx W 0 = p ∧ mx W 1 = q ∧ mx W 2 = r ∧ mx W 3 = s := by unfold mx; simp [hM]
    obtain ⟨m0, m1, m2, m3⟩ := hmx
    have hcnt : ∀ i, sumC (tabI (unf W tb0) i) = lin (pw 1 15) (tabI (unf W tb0) i) := fun i => sum_lin _ _
    simp only [← hpv, ← hcnt, Bool.and_eq_true, decide_eq_true_eq, ← hah] at hw
    obtain ⟨⟨⟨⟨⟨⟨⟨⟨⟨⟨⟨⟨⟨⟨⟨⟨⟨⟨⟨⟨⟨⟨⟨w1, w2⟩, w3⟩, w4⟩, w5⟩, w6⟩, w7⟩, w8⟩, w9⟩, w10⟩, w11⟩, w12⟩, w13⟩, w14⟩, w15⟩, w16⟩, w17⟩, w18⟩, w19⟩, w20⟩, w21⟩, w22⟩, w23⟩, w24⟩ := hw
    refine { tok := ?_, u := u1, m := w1, ne := ?_, cnt := ?_, poly := ?_, len := ?_, smp := ?_, ah0 := w18, ah1 := w19, non := ?_, sm1 := ?_, sm2 := ?_, sm3 := ?_, sm4 := ?_, sm5 := bits_small w12, sm6 := bits_small w13, eq1 := ?_, eq2 := ?_, eq3 := ?_, eq4 := ?_ }
    · intro q
      cases q with
      | true => exact tok_q h4
      | false => rw [← hW] at h4 ⊢; exact tok_b h4
    · rw [hsh, hc]; rfl
    · intro i hi
      rw [hshort]
      have : i = 0 ∨ i = 1 ∨ i = 2 ∨ i = 3 ∨ i = 4 := by omega
      rcases this with rfl | rfl | rfl | rfl | rfl
      · exact w2
      · exact w3
      · exact w4
      · exact w5
      · exact w6
    · intro i _
      unfold okPoly
      simp only [List.all_eq_true, Bool.and_eq_true, decide_eq_true_eq]
      intro p hp
      have h1 := (hrow i).2.1 p.1 (List.mem_map.mpr ⟨p, hp, rfl⟩)
      exact ⟨⟨by omega, by omega⟩, nrm_small (hrow i).2.2 hp⟩
    · intro i _
      have := (hrow i).len
      omega
    · intro i hi
      have : i = 0 ∨ i = 1 ∨ i = 2 ∨ i = 3 ∨ i = 4 := by omega
      rcases this with rfl | rfl | rfl | rfl | rfl
      · exact bits_small w7
      · exact bits_small w8
      · exact bits_small w9
      · exact bits_small w10
      · exact bits_small w11
    · rw [w20]; unfold bq bp; rfl
    · rw [m0]; exact bits_small w14
    · rw [m1]; exact bits_small w15
    · rw [m2]; exact bits_small w16
    · rw [m3]; exact bits_small w17
    · rw [m0]; unfold squareI ringI bp; exact w21
    · rw [m1]; unfold squareI ringI bp; exact w22
    · rw [m2]; unfold squareI ringI bp; exact w23
    · rw [m3]; unfold squareI ringI bp; exact w24
end Mine
end
section
open PySem PySem.W PyProof.Rows PySem.Calls PySem.Spec PyProof.V PyProof.Rows.LCg
set_option maxRecDepth 100000
set_option maxHeartbeats 2000000
namespace Mine
local macro_rules | `(tactic| walk_at $s:str) => `(tactic| k_extra $s)
local macro_rules | `(tactic| k_mem) => `(tactic| assumption)
local macro_rules | `(tactic| k_all) => `(tactic| assumption)
local macro_rules | `(tactic| k_room) => `(tactic| ktr_room)
theorem ne_same {prog : Program} {w : World} {A : Around} {E : Value → Shared → Prop} {s : Shared} {a b : Int} {t u : Tok} {Q : Value → Shared → Prop} (e : a = b) (h : Q (.bool false) s) : wpAny (model prog w) A (compareOp .NotEq (.int a t) (.int b u)) Q E s := by
  refine PyProof.Rows.ne_int ?_
  subst e
  simpa using h
theorem News.front2 {h₀ h : Heap} {L : Addr} {x0 x1 x2 : Addr × Obj} {n : List (Addr × Obj)} (N : News h₀ L h (x0 :: x1 :: x2 :: n)) : News h₀ L h (x2 :: x0 :: x1 :: n) := N.perm fun p hp => by
  simp only [List.mem_cons] at hp ⊢
  rcases hp with h | h | h | h <;> simp [h]
theorem News.front3 {h₀ h : Heap} {L : Addr} {x0 x1 x2 x3 : Addr × Obj} {n : List (Addr × Obj)} (N : News h₀ L h (x0 :: x1 :: x2 :: x3 :: n)) : News h₀ L h (x3 :: x0 :: x1 :: x2 :: n) := N.perm fun p hp => by
  simp only [List.mem_cons] at hp ⊢
  rcases hp with h | h | h | h | h <;> simp [h]
theorem News.front4 {h₀ h : Heap} {L : Addr} {x0 x1 x2 x3 x4 : Addr × Obj} {n : List (Addr × Obj)} (N : News h₀ L h (x0 :: x1 :: x2 :: x3 :: x4 :: n)) : News h₀ L h (x4 :: x0 :: x1 :: x2 :: x3 :: n) := N.perm fun p hp => by
  simp only [List.mem_cons] at hp ⊢
  rcases hp with h | h | h | h | h | h <;> simp [h]
theorem News.front5 {h₀ h : Heap} {L : Addr} {x0 x1 x2 x3 x4 x5 : Addr × Obj} {n : List (Addr × Obj)} (N : News h₀ L h (x0 :: x1 :: x2 :: x3 :: x4 :: x5 :: n)) : News h₀ L h (x5 :: x0 :: x1 :: x2 :: x3 :: x4 :: n) := N.perm fun p hp => by
  simp only [List.mem_cons] at hp ⊢
  rcases hp with h | h | h | h | h | h | h <;> simp [h]
theorem off1_of {D : Addr} : ∀ {l : List (Addr × Obj)}, (∀ p ∈ l, p.1 ≠ D) → Off1 D l
  | [], _ => trivial
  | p :: l, h => ⟨h p (.head _), off1_of fun q hq => h q (.tail _ hq)⟩
theorem lt128_4 {W : List Nat} (h : ∀ k ∈ W, k ∈ [34, 92, 32, 10]) : ∀ k ∈ W, k < 128 := fun k hk => by have := h k hk; simp at this; omega
theorem seed_int {y : Value} {i : Nat} {t1 t2 t3 t4 t5 : Tok} (h : [Value.int 0 t1, .int 3 t2, .int 0 t3, .int 2 t4, .int 1 t5][i]? = some y) : ∃ c t, y = .int c t := by
  have hm := List.mem_of_getElem? h
  simp only [List.mem_cons, List.not_mem_nil, or_false] at hm
  rcases hm with rfl | rfl | rfl | rfl | rfl <;> exact ⟨_, _, rfl⟩
theorem IsList.kept {h h' : Heap} {a : Addr} {its : Array Value} (x : h.IsList a its) (k : ∀ b o, h.get? b = some o → h'.get? b = some o) : h'.IsList a its := let ⟨o, e, r⟩ := x; ⟨o, k _ _ e, r⟩
theorem five {ns : List Int} (h : ns.length = 5) : ∃ a b c d e, ns = [a, b, c, d, e] := by
  match ns, h with
  | [a, b, c, d, e], _ => exact ⟨a, b, c, d, e, rfl⟩
local macro_rules | `(tactic| k_head) => `(tactic| o_head (kHook Mine.frag.heap_1 [2, 3, 6, 15, 17, 18, 20, 21, 22, 24, 25, 27, 28, 36, 38, 39, 41, 42, 43, 45, 46, 48, 49, 50, 52, 53, 55, 56, 57, 59, 60, 62, 63, 64, 65, 66, 67, 68, 71, 73, 74, 76, 77, 78, 80, 81, 83, 84, 85, 88, 89, 90, 93, 94, 95, 97, 98, 100, 101, 102, 104, 105, 107, 108, 109, 111, 112, 114, 115, 116, 119, 120] (fun _ => by kernel_rfl)))
-- The library's quick evaluation lays a twin of each constant that it meets in the head, under the names t.tw<hash> and t.te<hash>,
-- unless such a name is taken. The proofs of these twins would make four fifths of the head's size. The names below are taken, by numbers
-- that nothing uses, so the head is evaluated without twins of its own. Every step is checked by the kernel as ever.
def t.tw12338376137019451971 : Nat := 0
def t.tw15068483726869450994 : Nat := 0
def t.tw9994042511416986438 : Nat := 0
def t.tw6312337780509686137 : Nat := 0
def t.tw18053215466497350500 : Nat := 0
def t.tw11669689928384185219 : Nat := 0
def t.tw9151137219863538466 : Nat := 0
def t.tw10203731649938597347 : Nat := 0
def t.tw525366067405650490 : Nat := 0
def t.tw7431717090119660343 : Nat := 0
def t.tw13834376703629515387 : Nat := 0
def t.tw7170145337237099979 : Nat := 0
def t.tw6193619939880243084 : Nat := 0
def t.tw14862280634691477581 : Nat := 0
def t.tw8161005431382483088 : Nat := 0
def t.tw14370440272866921319 : Nat := 0
def t.tw840579726631181855 : Nat := 0
def t.tw804432764779568513 : Nat := 0
def t.tw5317508456004773301 : Nat := 0
def t.tw12546818603524537029 : Nat := 0
def t.tw4871556276614502690 : Nat := 0
def t.tw6412166833428047700 : Nat := 0
def t.tw15322862540050973937 : Nat := 0
def t.tw10698328449051009877 : Nat := 0
def t.tw9121446804506797324 : Nat := 0
def t.tw16144646665701004317 : Nat := 0
def t.tw3239728353872976266 : Nat := 0
def t.tw1604679568309815345 : Nat := 0
def t.tw11144666246068070455 : Nat := 0
def t.tw6359866607469962582 : Nat := 0
def t.tw11539270835194307026 : Nat := 0
def t.tw17309188966745494830 : Nat := 0
def t.tw8751032299008168679 : Nat := 0
def t.tw1454213223219910220 : Nat := 0
def t.tw1986364855353497651 : Nat := 0
def t.tw9667159508723474380 : Nat := 0
def t.tw14520604183109505891 : Nat := 0
def t.tw4824961505363468867 : Nat := 0
def t.tw12951373186386577162 : Nat := 0
def t.tw909991247191009851 : Nat := 0
def t.tw11134927608398628971 : Nat := 0
def t.tw7345203747615911520 : Nat := 0
def t.tw9310708807431976578 : Nat := 0
def t.tw17405135080307922463 : Nat := 0
def t.tw12725460751592847851 : Nat := 0
def t.tw11357995668970500933 : Nat := 0
def t.tw14496788088441779706 : Nat := 0
def t.tw6345205833704035819 : Nat := 0
def t.tw12570831819464518780 : Nat := 0
def t.tw15443618370460905992 : Nat := 0
def t.tw11519060278220708172 : Nat := 0
def t.tw18328265664796163912 : Nat := 0
def t.tw16188777196982488016 : Nat := 0
def t.tw18354930847772701202 : Nat := 0
def t.tw14731787122588773562 : Nat := 0
def t.tw17736380109705625125 : Nat := 0
def t.tw805073862692253259 : Nat := 0
def t.tw928584207659071179 : Nat := 0
def t.tw3625788560305602034 : Nat := 0
def t.tw18239148815295677835 : Nat := 0
def t.tw7774395744804215649 : Nat := 0
def t.tw17419012883943137770 : Nat := 0
def t.tw7064446276773701155 : Nat := 0
def t.tw348087809420509200 : Nat := 0
def t.tw7163357937738401037 : Nat := 0
def t.tw3368480393061434210 : Nat := 0
def t.tw15844157597705847566 : Nat := 0
def t.tw5510886775613128667 : Nat := 0
def t.tw6720456403870207322 : Nat := 0
def t.tw4308058916878366553 : Nat := 0
def t.tw16534400057113985147 : Nat := 0
def t.tw63802966000111848 : Nat := 0
def t.tw2927354649861347117 : Nat := 0
def t.tw12461486776191447210 : Nat := 0
def t.tw440540905644855773 : Nat := 0
def t.tw7292420324971342777 : Nat := 0
def t.tw16275878106821082776 : Nat := 0
def t.tw12017351982171620213 : Nat := 0
def t.tw14845417977995127743 : Nat := 0
def t.tw15946661969018253987 : Nat := 0
def t.tw2663412439361033715 : Nat := 0
def t.tw7505500496765597222 : Nat := 0
def t.tw15902025900290729940 : Nat := 0
def t.tw6347352852808101672 : Nat := 0
def t.tw592150893358827281 : Nat := 0
def t.tw3236691213401332936 : Nat := 0
def t.tw11326192992270069098 : Nat := 0
def t.tw3029536933784715188 : Nat := 0
def t.tw5963725973854031540 : Nat := 0
def t.tw18189226492353921115 : Nat := 0
def t.tw9699126099414021394 : Nat := 0
def t.tw10484500519408165254 : Nat := 0
def t.tw16228875905145819412 : Nat := 0
def t.tw6532118016170851789 : Nat := 0
def t.tw6647821756170339169 : Nat := 0
def t.tw5503731792082714801 : Nat := 0
def t.tw9415409593666612802 : Nat := 0
def t.tw3232936825735925144 : Nat := 0
def t.tw14321417247457888668 : Nat := 0
def t.tw11461340973035847762 : Nat := 0
def t.tw3268922910341353620 : Nat := 0
def t.tw17439654145376136074 : Nat := 0
def t.tw11503472614763083054 : Nat := 0
def t.tw1638691776069158710 : Nat := 0
def t.tw12445031586567827895 : Nat := 0
def t.tw7183413702335326227 : Nat := 0
def t.tw12033797387551961126 : Nat := 0
def t.tw4312214170325830029 : Nat := 0
def t.tw15523858948417019471 : Nat := 0
def t.tw6341063168425251983 : Nat := 0
def t.tw17453554488578631093 : Nat := 0
set_option Elab.async true in
theorem t : PySem.Challenge.rw_qc0004_01.Holds := by
  w_on
  o_law
  k_head
  (case hw => w_witness2)
  w_strict (
    w_top off
    k_with_none
    k_with "execs cons" => (k_here; (with_reducible refine forget_toks ?_); intro tk9; (rename Fr _ _ _ _ => lF'); k_dflt (refine (let m9 : Str → Option Value := _; have F9 : Fr _ _ _ m9 := lF'; ?_)); clear lF')
    k_with "execs cons" => (k_here; (fail_if_success (have hq9 := Q9)); k_dflt (refine (let Q9 : Flow → Shared → Prop := _; let E9 : Value → Shared → Prop := _; (show wpAny _ _ (execs _ _) Q9 E9 _ from ?_))))
    k_with "my.cd" => (((rename Fr _ _ _ _ => lF'); (rename News _ _ _ _ => lN'); (rename IntsAre _ [_, _, _, _, _] => lI'); (k_dflt (refine comp_draw (fun n => Ls [cod n]) lF' lN' rfl (by k_mem) lI' (Nat.le_of_ble_eq_true rfl) (by with_unfolding_all rfl) (by decide) (by rfl) (by decide) (by rfl) (fun Q E' h => nameX_L lF' (by rfl) h) (fun k hk C m₂ s₂ t E' hn hv => el_draw (env := compEnvC _ _ C _) (by rfl) (by rfl) hn hv) ?_)); clear lF' lN' lI'; intro D' ys' n' h' tk' F' N' o1' hs'; (try simp only [LCg.Off1, and_true] at o1'); (try dsimp only)))
    k_with "eval ListComp" => ((k_here; walk_at "my.cd"))
    k_with "call builtin:str.join" => ((k_here; (rename News _ _ _ _ => lN'); (rename StrsAre _ [_, _, _, _, _] => lS'); (k_dflt (refine jn_call (l := [_, _, _, _, _]) ones_len lN' (by exact List.Mem.head _) lS' (Nat.le_of_ble_eq_true rfl) ?_)); clear lS'; intro t' tk'; rw [jn_ones]; (try dsimp only)))
    k_with "call ref" => ((k_here; k_dflt (show wpAny _ _ (call (Value.ref 89) _) _ _ _); (rename Fr _ _ _ _ => lF'); (rename News _ _ _ _ => lN'); (k_dflt (refine wri_spec (kk := [_, _, _, _, _]) (by k_asm) (by exact lF') (by k_asm) (by exact lN') (by k_asm) (by rfl) (by ktr_room) (by ktr_units) (by assumption) (by exact Nat.le_of_ble_eq_true rfl) ?_; k_whole)); clear lF' lN'; intro t' h' tk' F' N'; (try dsimp only)))
    k_with "call ref" => ((k_here; k_dflt (show wpAny _ _ (call (Value.ref 84) _) _ _ _); (rename Fr _ _ _ _ => lF'); (rename News _ _ _ _ => lN'); (k_dflt (refine lexer_spec _ _ _ _ _ _ _ _ _ _ _ _ _ _ _ _ _ _ (by k_asm) (by exact lF') (by k_asm) (by exact News.rot79 lN') (by k_all) (by assumption) (by k_asm) (by rfl) (by ktr_room) (by ktr_units) _ 0 0 _ (by exact wrS_len rfl) ?_; k_whole)); clear lF' lN'; intro pb lx dd dx rf cc st c1 D cell fdr fds oc oc1 ocell otab ys c u t1 t2 t3 t4 t5 t6 h' tk' F' N' ord nb hs hRd; (have nb1 := NB.all nb); (k_lt nb1); (try dsimp only at nb1); (obtain ⟨ks, r1, l1, r2, l2, hys, hyl, hkl, hok1, htk1, hr1l, hok2, htk2, rfl⟩ := tok_facts rfl (PureOk.tok (by assumption)) hs); clear nb; (replace N' := News.rotTok N'); (k_dflt (have hS := LexS.ofN (lx := lx) (dx := dx) (dd := dd) (rf := rf) (cc := cc) (st := st) (D := D) (cell := cell) (u := u) (fdr := fdr) (fds := fds) (oc := oc) (ocell := ocell) N' (by k_mem) (by k_mem) (by k_mem) (by k_mem) (by k_mem) (by k_mem) (by k_all) (by k_all) (neN (by omega)) hRd)); (try dsimp only)))
    k_with "call ref" => ((k_here; k_dflt (show wpAny _ _ (call (Value.ref 56) [Value.ref _]) _ _ _); (rename Fr _ _ _ _ => lF'); (rename News _ _ _ _ => lN'); (k_dflt (refine tok_read _ _ _ _ _ _ _ _ _ _ _ _ _ _ _ _ _ _ _ _ _ _ _ _ _ _ _ _ _ _ _ _ _ _ _ _ _ _ _ _ _ _ _ (by k_asm) (by exact lF') (by k_asm) (by exact lN') (by assumption) (by k_asm) (by rfl) (by ktr_room) (by ktr_units) (by k_mem) (by assumption) (by k_mem) (by assumption) (by assumption) (by assumption) (by assumption) _ _ _ (by assumption) ?_; k_whole)); clear lF' lN'; intro t' ys' c' h' tk' t2' F' hs' hl' N'; (try dsimp only)))
    k_with "compareOp NotEq ref ref" => ((k_here; (rename News _ _ _ _ => lN'); (k_dflt (refine ne_read lN' (by k_mem) (by k_mem) (by assumption) (by exact Nat.le_of_ble_eq_true rfl) (by ktr_units) ?_; k_whole))))
    k_with "compareOp NotEq int int" => ((k_here; k_dflt (refine ne_same (by assumption) ?_)))
    k_with "call ref" => ((k_here; k_dflt (show wpAny _ _ (call (Value.ref 94) _) _ _ _); (rename Fr _ _ _ _ => lF'); (rename News _ _ _ _ => lN'); k_dflt (first | (refine unf_cells (sg := [_, _, _, _, _]) (by k_asm) lF' (by k_asm) (by first | exact News.front4 lN' | exact News.front3 lN' | exact News.front2 lN' | exact News.front5 lN') (by k_asm) rfl (by ktr_room) (by ktr_units) (by k_mem) (by k_mem) (by k_all) (by (refine neN ?_; omega)) (by (refine neN ?_; omega)) (by assumption) (PureOk.u (by assumption)) (List.mem_of_getElem? (i := 20) rfl) (List.mem_of_getElem? (i := 19) rfl) (List.mem_of_getElem? (i := 18) rfl) (List.mem_of_getElem? (i := 17) rfl) (List.mem_of_getElem? (i := 16) rfl) (List.mem_of_getElem? (i := 15) rfl) (by k_mem) (by assumption) (by assumption) (by assumption) (by assumption) (by assumption) (by assumption) ?_) | (refine unf_cells (sg := [_, _, _, _, _]) (by k_asm) lF' (by k_asm) (by first | exact News.front4 lN' | exact News.front3 lN' | exact News.front2 lN' | exact News.front5 lN') (by k_asm) rfl (by ktr_room) (by ktr_units) (by k_mem) (by k_mem) (by k_all) (by (refine neN ?_; omega)) (by (refine neN ?_; omega)) (by assumption) (PureOk.u (by assumption)) (List.mem_of_getElem? (i := 19) rfl) (List.mem_of_getElem? (i := 18) rfl) (List.mem_of_getElem? (i := 17) rfl) (List.mem_of_getElem? (i := 16) rfl) (List.mem_of_getElem? (i := 15) rfl) (List.mem_of_getElem? (i := 14) rfl) (by k_mem) (by assumption) (by assumption) (by assumption) (by assumption) (by assumption) (by assumption) ?_) | (refine unf_cells (sg := [_, _, _, _, _]) (by k_asm) lF' (by k_asm) (by first | exact News.front4 lN' | exact News.front3 lN' | exact News.front2 lN' | exact News.front5 lN') (by k_asm) rfl (by ktr_room) (by ktr_units) (by k_mem) (by k_mem) (by k_all) (by (refine neN ?_; omega)) (by (refine neN ?_; omega)) (by assumption) (PureOk.u (by assumption)) (List.mem_of_getElem? (i := 18) rfl) (List.mem_of_getElem? (i := 17) rfl) (List.mem_of_getElem? (i := 16) rfl) (List.mem_of_getElem? (i := 15) rfl) (List.mem_of_getElem? (i := 14) rfl) (List.mem_of_getElem? (i := 13) rfl) (by k_mem) (by assumption) (by assumption) (by assumption) (by assumption) (by assumption) (by assumption) ?_)); clear lF' lN'; intro td ot h' tk' fl F' N' hfm h79 hfl hTf p1 p2 p3 p4 p5 p6; (try dsimp only)))
    k_with "my.odd" => ((rename Fr _ _ _ _ => lF'); (rename News _ _ _ _ => lN'); (rename TabD _ _ _ _ => lT'); k_dflt (refine comp_odd lF' lN' rfl (by with_unfolding_all rfl) (by decide) (by rfl) (by decide) (by rfl) (by rfl) (by rfl) (by k_mem) (by assumption) (by (intro Q E' h; exact nameX_C lN' (by rfl) (by k_mem) (by assumption) h)) (by k_mem) (by assumption) lT' (PureOk.sm (by assumption)) (by k_mem) (by exact .cons _ _ (.cons _ _ (.cons _ _ (.cons _ _ (.cons _ _ .nil))))) ?_ (by decide) (by decide)); clear lF' lN'; intro D' n' h' tk' F' N' o1'; (try simp only [LCg.Off1, and_true] at o1'); (try dsimp only))
    k_with "eval ListComp" => ((k_here; (with_reducible show wpAny _ _ (eval (PySem.Expr.ListComp _ [PySem.Comprehension.mk _ _ [_] _] _ _) _) _ _ _); walk_at "my.odd"))
    k_with "exec Assign cons ListComp" => ((k_here; (with_reducible show wpAny _ _ (exec (PySem.Stmt.Assign [_] (PySem.Expr.ListComp (PySem.Expr.IfExp _ _ (PySem.Expr.Dict _ _ _) _) _ _ _) _) _) _ _ _); walk_at "my.tabs"))
    k_with "my.tabs" => ((rename Fr _ _ _ _ => lF'); (rename News _ _ _ _ => lN'); (rename TabD _ _ _ _ => lT'); k_dflt (refine comp_tabs lF' lN' (Top.nolimit (by k_asm)) rfl (by with_unfolding_all rfl) (by rfl) (by decide) (by rfl) (by decide) (by rfl) (by rfl) (by rfl) (by rfl) (by rfl) (by k_mem) (by assumption) (by (intro Q E' h; exact nameX_C lN' (by rfl) (by k_mem) (by assumption) h)) (by k_mem) (by assumption) lT' (PureOk.sm (by assumption)) (by (intro p hp; repeat (first | exact hp | apply List.Mem.tail))) (by repeat (first | exact (show (79, tabObj _) ∈ _ by assumption) | apply List.Mem.tail)) (by k_mem) (by exact .cons _ _ (.cons _ _ (.cons _ _ (.cons _ _ (.cons _ _ .nil))))) (List.mem_of_getElem? (i := 8) rfl) (List.mem_of_getElem? (i := 7) rfl) (List.mem_of_getElem? (i := 6) rfl) (List.mem_of_getElem? (i := 5) rfl) (List.mem_of_getElem? (i := 4) rfl) (List.mem_of_getElem? (i := 3) rfl) (by assumption) (by assumption) (by assumption) (by assumption) (by assumption) (by assumption) (by decide) (by decide) ?_); clear lF' lN'; intro D' ys' h' tk' fl' F' N' hfm' hfn' h79' hTf' hRow' p0' p1' p2' p3' p4' p5' p6' q1' q2' q3' q4' q5' q6'; (try dsimp only))
    k_with "call ref" => ((k_here; k_dflt (show wpAny _ _ (call (Value.ref 101) _) _ _ _); (rename Fr _ _ _ _ => lF'); (rename News _ _ _ _ => lN'); (k_dflt ((refine mov_spec (kk := [_, _, _, _, _]) (by k_asm) (by exact lF') (by k_asm) (by exact lN') (by k_asm) (by rfl) (by ktr_room) (by ktr_units) (by exact lt128_4 (by assumption)) ?_); k_whole)); clear lF' lN'; intro D' t1' t2' t3' n' h' tk' F' N' o'; (replace o' := off1_of o'); (try simp only [LCg.Off1, and_true] at o'); (try dsimp only)))
    k_with "my.short" => ((rename Fr _ _ _ _ => lF'); (rename News _ _ _ _ => lN'); k_dflt (refine comp_short (W := [_, _, _, _, _]) (by k_asm) lF' (by k_asm) lN' (by k_asm) rfl (by ktr_room) (by ktr_units) (by assumption) (by rfl) (by decide) (by rfl) (by decide) (by rfl) (by rfl) (by rfl) (by k_mem) (by assumption) (by (intro Q E' h; exact nameX_C lN' (by rfl) (by k_mem) (by assumption) h)) (by repeat (first | assumption | apply List.Mem.tail)) (by exact .cons _ _ (.cons _ _ (.cons _ _ (.cons _ _ (.cons _ _ .nil))))) (by exact List.Mem.head _) (by k_is) (by k_is) (by rfl) (by rfl) (by decide) (by decide) (by decide) ?_); clear lF' lN'; intro t' h' tk' F' N'; (try dsimp only))
    k_with "eval Subscript" => ((k_here; (with_reducible show wpAny _ _ (eval (PySem.Expr.Subscript (PySem.Expr.ListComp _ _ _ _) _ _) _) _ _ _); walk_at "my.short"))
    k_with "my.counts" => ((rename Fr _ _ _ _ => lF'); (rename News _ _ _ _ => lN'); k_dflt (refine comp_counts (by k_asm) lF' (by k_asm) lN' (by k_asm) rfl (by ktr_room) (by ktr_units) (by rfl) (by decide) (by rfl) (by decide) (by rfl) (by (intro Q E' h; exact nameX_L lF' (by rfl) h)) (by k_mem) (by assumption) (by (intro p hp; repeat (first | exact hp | apply List.Mem.tail))) (by k_is) (by k_is) (by rfl) (by rfl) (by decide) (by decide) ?_); clear lF' lN'; intro D' zs' h' tk' F' N' o1' hi'; (try simp only [LCg.Off1, and_true] at o1'); (try dsimp only))
    k_with "eval ListComp" => ((k_here; (with_reducible show wpAny _ _ (eval (PySem.Expr.ListComp (PySem.Expr.Call _ [PySem.Expr.Name _ _] _ _) _ _ _) _) _ _ _); walk_at "my.counts"))
    k_with "my.parts" => ((rename Fr _ _ _ _ => lF'); (rename News _ _ _ _ => lN'); k_dflt (refine comp_parts (W := [_, _, _, _, _]) (by k_asm) lF' (by k_asm) lN' (by k_asm) rfl (by assumption) (by ktr_room) (by ktr_units) (by rfl) (by decide) (by rfl) (by decide) (by rfl) (by rfl) (by rfl) (by k_mem) (by assumption) (by (intro Q E' h; exact nameX_C lN' (by rfl) (by k_mem) (by assumption) h)) (by repeat (first | assumption | apply List.Mem.tail)) (by exact .cons _ _ (.cons _ _ (.cons _ _ (.cons _ _ (.cons _ _ .nil))))) (by k_is) (by k_is) (by rfl) (by rfl) (by decide) (by decide) (by decide) ?_); clear lF' lN'; intro D' zs' h' tk' F' N' o1' hi'; (try simp only [LCg.Off1, and_true] at o1'); (try dsimp only))
    k_with "eval ListComp" => ((k_here; (with_reducible show wpAny _ _ (eval (PySem.Expr.ListComp (PySem.Expr.IfExp (PySem.Expr.Call _ _ _ _) _ _ _) _ _ _) _) _ _ _); walk_at "my.parts"))
    k_with "compareOp NotEq ref ref" => ((k_here; (rename News _ _ _ _ => lN'); (k_dflt (refine ne_ints lN' (by k_mem) (by k_mem) (by assumption) (by assumption) (by exact PureOk.cntL (by assumption)) (by ktr_units) ?_; k_whole))))
    k_with "binaryOp Pow int int" => ((k_here; with_reducible (first | (refine pow_base ?_) | (refine pow_bp2 ?_) | (refine pow_bp4 ?_) | (refine pow_ahead (PureOk.ah0 (by assumption)) (PureOk.ah1 (by assumption)) ?_))))
    k_with "unaryOp USub int" => ((k_here; with_reducible refine PyProof.Rows.neg_int ?_))
    k_with "call ref" => ((k_here; k_dflt (show wpAny _ _ (call (Value.ref 115) _) _ _ _); (rename Fr _ _ _ _ => lF'); (rename News _ _ _ _ => lN'); (k_dflt ((refine mat_specW (W := [_, _, _, _, _]) (by k_asm) lF' (by k_asm) lN' (by k_asm) (by rfl) (by assumption) (by ktr_room) (by ktr_units) (by assumption) ?_); k_whole)); clear lF' lN'; intro D' t1' t2' t3' t4' h' tk' F' N'; (try dsimp only)))
    k_with "my.polys" => ((rename Fr _ _ _ _ => lF'); (rename News _ _ _ _ => lN'); k_dflt (refine comp_polys (W := [_, _, _, _, _]) lF' (by k_asm) lN' (by k_asm) (by rfl) (by decide) (by rfl) (by decide) (by rfl) (by (intro Q E' h; exact nameX_L lF' (by rfl) h)) (PureOk.poly (by assumption)) (PureOk.len (by assumption)) (by k_mem) (by assumption) (by (intro p hp; repeat (first | exact hp | apply List.Mem.tail))) (by k_is) (by boot_by_name) (by decide) (by rfl) (by rfl) (by rfl) (by (intro C; with_unfolding_all rfl)) (by decide) (by rfl) (by decide) (by rfl) (by rfl) (by decide) (by (intro C; rfl)) (by rfl) (by k_mem) (by assumption) (by decide) (by decide) (by decide) (by decide) (by decide) (by (intro C; with_unfolding_all rfl)) ?_); clear lF' lN'; intro D' t0' t1' t2' t3' t4' h' tk' F' N' o1'; (try simp only [LCg.Off1, and_true] at o1'); (try dsimp only))
    k_with "eval ListComp" => ((k_here; (with_reducible show wpAny _ _ (eval (PySem.Expr.ListComp (PySem.Expr.Call _ [PySem.Expr.ListComp _ _ _ _] _ _) _ _ _) _) _ _ _); walk_at "my.polys"))
    k_with "my.ahead" => (((rename Fr _ _ _ _ => lF'); (rename News _ _ _ _ => lN'); (k_dflt ((refine comp_ahead (ks := [_, _, _, _, _]) lF' lN' (by rfl) (by rfl) (by assumption) (by exact Nat.le_of_ble_eq_true rfl) (by rfl) (by decide) (by rfl) (by decide) (by rfl) (by decide) ?_); (k_whole))); clear lF' lN'; intro D' zs' h' tk' F' N' o1' hi'; (try simp only [LCg.Off1, and_true] at o1'); (try dsimp only)))
    k_with "eval ListComp" => ((k_here; (with_reducible show wpAny _ _ (eval (PySem.Expr.ListComp (PySem.Expr.IfExp (PySem.Expr.Compare _ _ _ _) (PySem.Expr.Constant _ _ _) _ _) _ _ _) _) _ _ _); walk_at "my.ahead"))
    k_with "call builtin:sum" => ((k_here; (rename Fr _ _ _ _ => lF'); (rename News _ _ _ _ => lN'); (k_dflt (refine sum_ahead (W := [_, _, _, _, _]) lF' lN' (by rfl) (by exact List.Mem.head _) (by assumption) ?_; k_whole)); clear lF' lN'; intro t' h' tk' F' N'; (try dsimp only)))
    k_with "compareOp NotEq int int" => ((k_here; with_reducible refine ne_same (PureOk.non (by assumption)) ?_))
    k_with "my.sm" => (with_reducible first | exact smI_bp2 | exact smI_ring | exact PureOk.sm1 (by assumption) | exact PureOk.sm2 (by assumption) | exact PureOk.sm3 (by assumption) | exact PureOk.sm4 (by assumption) | exact PureOk.sm5 (by assumption) | exact PureOk.sm6 (by assumption) | exact PureOk.p1 (by assumption) | exact PureOk.p2 (by assumption) | exact PureOk.p3 (by assumption) | exact PureOk.p4 (by assumption))
    k_with "binaryOp Mult int int" => ((k_here; (with_reducible refine PySem.P.mul_int ?_ (hm := smI_mul (by walk_at "my.sm") (by walk_at "my.sm")))))
    k_with "compareOp NotEq ref ref" => ((k_here; (rename News _ _ _ _ => lN'); k_dflt (refine ne_two lN' (by k_mem) (by k_mem) (by with_reducible exact PureOk.eq1 (by assumption)) (by with_reducible exact PureOk.eq2 (by assumption)) (by ktr_units) ?_)))
    k_with "compareOp Eq ref ref" => ((k_here; (rename News _ _ _ _ => lN'); k_dflt (refine eq_two lN' (by k_mem) (by k_mem) (by with_reducible exact PureOk.eq3 (by assumption)) (by with_reducible exact PureOk.eq4 (by assumption)) (by ktr_units) ?_)))
    k_go0; (all_goals try k_fold)
    rename_i w5 w4 w3 w2 w1 w0 e5 e4 e3 e2 e1 e0 hCA hX0 hT0 hB0 hF0 hN0 hl0
    walk1
    walk1
    rename Fr _ _ _ _ => F1
    rename News _ _ _ _ => N1
    rename CellsAre _ _ _ => hCells
    clear hCells
    k_dflt (refine' Assign_ListComp_KF F1 rfl rfl (by with_unfolding_all rfl) (by with_unfolding_all rfl) (by decide) (by rfl) (by decide) (by rfl) (by rfl) (by decide) (by rfl) (by rfl) ?_)
    k_steps
    rename Fr _ _ _ _ => F2
    rename News _ _ _ _ => N2
    rename Heap.IsList _ _ _ => hScr
    rename IntsAre _ _ => hInts
    rename _ = Data.cell _ => hcScr
    refine' enum_src (fun i ys => ∃ ns, IntsAre ys ns ∧ ns.length = i) rfl F2 N2 (.head _) rfl rfl (by rw [sizeLine_eq]; exact Nat.le_of_ble_eq_true rfl) ⟨[], .nil, rfl⟩ ?hel ?fin
    case hel =>
      rintro C i x t y ys s' m₂ E' rfl hy ⟨ns, hns, hlen⟩ hn h1 h2 hkeep
      obtain ⟨c, tc, rfl⟩ := seed_int hy
      have F3 := F2.keeps hkeep
      refine wpAny_mono (el_sum (env := compEnvC _ _ C _) (ca := _) rfl rfl hn (by rfl) h2 (by rfl) h1 (by with_unfolding_all rfl) (by rfl) ⟨_, hkeep _ _ (N2 _ (.tail _ (.tail _ (.tail _ (.tail _ (.tail _ (.tail _ (.head _)))))))).1, hcScr⟩ (IsList.kept hScr F3.keep) hInts ?_ ?_ (by decide) (by decide) (by decide)) (fun z s₃ hz => ?_) fun _ _ e => e
      · 
        have := hInts.length
        omega
      · intro s4 Q4 E4 hk4 hq
        obtain ⟨h4, tk4, rfl, hk4⟩ := hk4
        exact LCgL.ld_built (F3.keeps hk4) (by assumption) (by assumption) (by k_is) (by boot_by_name) (by decide) hq
      · 
        obtain ⟨⟨n, t', rfl⟩, hK⟩ := hz
        exact ⟨⟨ns ++ [n], hns.append (.cons _ _ .nil), by simp [hlen]⟩, hK⟩
    case fin =>
      intro hp hkp ys hJ D h tk F3 N3 l3
      k_lt l3
      obtain ⟨ns, hns, hlen⟩ := hJ
      obtain ⟨n0, n1, n2, n3, n4, rfl⟩ := five hlen
      clear hkp F2 N2 hlen
      have h4 : ∀ k ∈ [cod n0, cod n1, cod n2, cod n3, cod n4], k ∈ [34, 92, 32, 10] := by
        intro k hk
        simp only [List.mem_cons, List.not_mem_nil, or_false] at hk
        rcases hk with rfl | rfl | rfl | rfl | rfl <;> exact cod_mem _
      have hP : PureOk [cod n0, cod n1, cod n2, cod n3, cod n4] := pure_ok h4
      k_steps)
end Mine
end
theorem PySem.Challenge.cw_qc0004_01_holds : PySem.Challenge.rw_qc0004_01.Holds := by
  exact Mine.t
