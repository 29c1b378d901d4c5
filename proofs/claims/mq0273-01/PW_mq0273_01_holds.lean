import PyProof.Rows.All
import Wide.All
import OpenK.AllK
import Wide.FinOn
import KE.BitLaws
import Lean
import PySem.Challenge.RW_mq0273_01
set_option Elab.async false
section
open PySem PyProof.Rows
namespace Mine
theorem or_add_and : ∀ a b : Nat, (a ||| b) + (a &&& b) = a + b := by
  intro a
  induction a using Nat.strongRecOn with
  | ind a ih =>
    intro b
    by_cases h : a = 0
    · subst h; simp
    · have h1 := ih (a / 2) (by omega) (b / 2)
      have e1 : (a ||| b) / 2 = a / 2 ||| b / 2 := Nat.or_div_two
      have e2 : (a &&& b) / 2 = a / 2 &&& b / 2 := Nat.and_div_two
      have m1 : (a ||| b) % 2 = 1 ↔ a % 2 = 1 ∨ b % 2 = 1 := Nat.or_mod_two_eq_one
      have m2 : (a &&& b) % 2 = 1 ↔ a % 2 = 1 ∧ b % 2 = 1 := Nat.and_mod_two_eq_one
      omega
theorem xor_add_and : ∀ a b : Nat, (a ^^^ b) + 2 * (a &&& b) = a + b := by
  intro a
  induction a using Nat.strongRecOn with
  | ind a ih =>
    intro b
    by_cases h : a = 0
    · subst h; simp
    · have h1 := ih (a / 2) (by omega) (b / 2)
      have e1 : (a ^^^ b) / 2 = a / 2 ^^^ b / 2 := Nat.xor_div_two
      have e2 : (a &&& b) / 2 = a / 2 &&& b / 2 := Nat.and_div_two
      have m1 : (a ^^^ b) % 2 = 1 ↔ ¬ ((a % 2 = 1) ↔ (b % 2 = 1)) := Nat.xor_mod_two_eq_one
      have m2 : (a &&& b) % 2 = 1 ↔ a % 2 = 1 ∧ b % 2 = 1 := Nat.and_mod_two_eq_one
      omega
theorem bitAnd_nat (a b : Nat) : Builtin.bitAnd (a : Int) (b : Int) = ((a &&& b : Nat) : Int) := by
  rw [bitAnd_pp (Int.natCast_nonneg _) (Int.natCast_nonneg _)]; rfl
theorem bitOr_nat (a b : Nat) : Builtin.bitOr (a : Int) (b : Int) = ((a ||| b : Nat) : Int) := by
  rw [bitOr_and, bitAnd_nat]
  have := or_add_and a b
  omega
theorem bitXor_nat (a b : Nat) : Builtin.bitXor (a : Int) (b : Int) = ((a ^^^ b : Nat) : Int) := by
  rw [bitXor_and, bitAnd_nat]
  have := xor_add_and a b
  omega
theorem fdiv_pow_nat (a n : Nat) : (a : Int).fdiv (2 ^ n) = ((a >>> n : Nat) : Int) := by
  rw [Int.fdiv_eq_ediv_of_nonneg _ (Int.le_of_lt (Int.pow_pos (by decide))), Nat.shiftRight_eq_div_pow]
  norm_cast
theorem mul_pow_nat (a n : Nat) : (a : Int) * 2 ^ n = ((a <<< n : Nat) : Int) := by
  rw [Nat.shiftLeft_eq]
  norm_cast
end Mine
end
section
open PySem PySem.W PyProof.Rows PySem.Calls
set_option maxRecDepth 100000
namespace Mine
abbrev pw := PySem.Challenge.pw_mq0273_01
def item (i : Nat) : DefItem := match pw.main.body[i]? with
  | some (.FunctionDef name args body _ _ _ scope _ _ pos) => ⟨name, args, body, scope, pos⟩
  | _ => ⟨"", ⟨[], [], none, [], [], none, []⟩, [], ⟨.module, [], false, false, []⟩, default⟩
def defs : List DefItem := [item 1, item 4, item 6, item 8, item 10, item 12, item 13, item 14, item 15, item 16, item 17, item 18, item 19]
def constInt : Expr → Option Int
  | .Constant (.int i) _ _ => some i
  | _ => none
def rangeL (a b : Int) : List Int := (List.range (b - a).toNat).map fun (i : Nat) => a + (i : Int)
/-- the ints of «set([..] + list(range(a, b)))» -/
def sumInts : Option Stmt → List Int
  | some (.Assign _ (.Call _ [.BinOp (.List es _) _ (.Call _ [.Call _ [.Constant (.int a) _ _, .Constant (.int b) _ _] _ _] _ _) _] _ _) _) => es.filterMap constInt ++ rangeL a b
  | _ => []
/-- the ints of «set(range(a, b))» -/
def rangeInts1 : Option Stmt → List Int
  | some (.Assign _ (.Call _ [.Call _ [.Constant (.int a) _ _, .Constant (.int b) _ _] _ _] _ _) _) => rangeL a b
  | _ => []
def b1L : List Int := sumInts pw.main.body[3]?
def c7L : List Int := rangeInts1 pw.main.body[7]?
def c9L : List Int := sumInts pw.main.body[9]?
/-- the pairs of «{k: v, ..}», all written -/
def dictPairs : Option Stmt → List (PyData × PyData)
  | some (.Assign _ (.Dict ks vs _) _) => (litPairs ks vs).getD []
  | _ => []
def b3D : List (PyData × PyData) := dictPairs pw.main.body[5]?
def IsIntSet (w : World) (l : List Int) (o : Obj) : Prop := ∃ S n, o.SetObjOf (intKind pw w) S n ∧ (∀ k, S k = l.contains k) ∧ n < 4096
def objs (w : World) : List (Str × (Obj → Prop)) := [("b1_set", IsIntSet w b1L), ("b3_exceptions", TabObj (intKind pw w) PyData.int b3D), ("c7_set", IsIntSet w c7L), ("c9_set", IsIntSet w c9L)]
def names : List Str := ["_gen_crc", "b1_set", "in_table_b1", "b3_exceptions", "map_table_b3", "c7_set", "in_table_c7", "c9_set", "in_table_c9", "_law_hidden", "_law_sign", "_law_flip", "_law_crc", "_law_back", "_law_read", "_law_along", "law"]
abbrev GG (w : World) (mg mb : Str → Option Value) (h : Heap) : Prop := Glob 0 mg mb defs [] (objs w) names h

theorem enter {w : World} {A : Around} {E : Value → Shared → Prop} {s : Shared} {Q : Value → Shared → Prop} {mg mb : Str → Option Value} {f : Addr} (d : DefItem) {vals : List Value} (binds : List (Str × Value))
    (G : GG w mg mb s.heap) (hd : d ∈ defs) (hf : mg d.name = some (.ref f)) (hA : A.depth < recursionLimit)
    (hbind : ∀ pm cd doc, bindArgs (docDef d.name d.params d.body d.scope pm cd doc) ⟨vals, []⟩ = pure binds)
    (hloc : (binds.all fun x => decide (d.scope.names.lookup x.1 = some .local)) = true)
    (h : ∀ cd h₁ L, Fr s.heap L h₁ (fun x => binds.reverse.lookup x) →
      wpAny (model pw w) (A.deeper (envOf d.name d.scope L f cd)) (execs d.body (envOf d.name d.scope L f cd))
        (fun fl s' => Q (match fl with | .ret v => v | _ => .none) s') (fun _ _ => False) { s with heap := h₁, toks := s.toks + binds.length })
    (hdef : d.params.defaults = []) 
    (hco : d.scope.isCoroutine = false) (hgen : d.scope.isGenerator = false) (hk : d.scope.kind = .function)
    (hcell : ∀ x ∈ d.scope.names, x.2 ≠ .cell) : wpAny (model pw w) A (call (.ref f) vals) Q E s := by
  obtain ⟨a, c', o, pm, doc, _, _, h3, h4, h5, h6⟩ := (G.made d hd).plain hdef
  rw [hf] at h3
  cases h3
  exact wpAny_call (call_plain_ret hA h4 h5 G.nolimit h6 (hbind _ _ _) (locs hloc) (fun h₁ F => h _ h₁ _ F) hco hgen hk hcell)

theorem Fr.over {h₀ h : Heap} {L : Addr} {m : Str → Option Value} {x : Str} {v : Value} (F : Fr h₀ L h m) (e : m x = some v) : Fr h₀ L h (fun y => if y = x then some v else m y) := by
  have : (fun y => if y = x then some v else m y) = m := by
    funext y
    by_cases hy : y = x
    · rw [if_pos hy, hy, e]
    · rw [if_neg hy]
  rw [this]; exact F

structure Kept (p : Prop) : Prop where
  out : p
abbrev Grows (h h' : Heap) : Prop := ∀ b o, h.get? b = some o → h'.get? b = some o

section
variable {prog : Program} {w : World} {A : Around} {E : Value → Shared → Prop} {s : Shared} {env : Env} {h₀ : Heap} {x : Str} {body : List Stmt} {Q : Flow → Shared → Prop}

/-- a turn's end: the ledger stands, the names tell J -/
def Turn (h₀ : Heap) (L : Addr) (J : (Str → Option Value) → Prop) (led : List (Addr × Obj)) (s₁ : Shared) (Qr : Value → Shared → Prop) (f : Flow) (s₂ : Shared) : Prop :=
  match f with
  | .ret v => Qr v s₂
  | .brk => False
  | _ => ∃ h' tk m', s₂ = { s₁ with heap := h', toks := tk } ∧ Fr h₀ L h' m' ∧ News h₀ L h' led ∧ J m'

theorem Turn.next {L : Addr} {J : (Str → Option Value) → Prop} {led : List (Addr × Obj)} {s₁ : Shared} {Qr : Value → Shared → Prop} {h' : Heap} {tk : Nat} {m' : Str → Option Value} (F : Fr h₀ L h' m') (N : News h₀ L h' led) (hj : J m') :
    Turn h₀ L J led s₁ Qr .next { s₁ with heap := h', toks := tk } := ⟨h', tk, m', rfl, F, N, hj⟩

theorem loop_const {I : Addr} {fp wr : List Addr} {n : Nat} {P : Nat → Value → Prop} {St : Nat → Heap → Prop} {m₀ : Str → Option Value} {news : List (Addr × Obj)} (J : Nat → (Str → Option Value) → Prop)
    (W : Walks prog w A I fp wr n P St) (hLf : env.locals ∉ fp) (hwr : ∀ b ∈ wr, h₀.get? b = none) (hnw : ∀ p ∈ news, p.1 ∉ wr) (hst : St 0 s.heap) (F : Fr h₀ env.locals s.heap m₀) (N : News h₀ env.locals s.heap news) (hj : J 0 m₀)
    (turn : ∀ i v m₁ h tk own, i < n → P i v → J i m₁ → Fr h₀ env.locals h (fun y => if y = x then some v else m₁ y) → News h₀ env.locals h (own ++ news) →
      wpAny (model prog w) A (execs body env) (Turn h₀ env.locals (J (i + 1)) (own ++ news) { s with heap := h, toks := tk } fun v s' => Q (.ret v) s') E { s with heap := h, toks := tk })
    (done : ∀ m₁ h tk, J n m₁ → Fr h₀ env.locals h m₁ → News h₀ env.locals h news → Q .next { s with heap := h, toks := tk }) :
    LoopAtV prog w A h₀ env x body Q E (.ref I) s := by
  refine ⟨I, fp, wr, n, P, St, m₀, news, fun i m₁ news₁ => news₁ = news ∧ J i m₁, rfl, W, hLf, hwr, hnw, hst, F, N, ⟨rfl, hj⟩, ?_, ?_⟩
  · rintro i v m₁ news₁ s₁ own ⟨hh', tk', rfl⟩ hin hP ⟨rfl, hJ⟩ hoff hown _ _ _ F₁ N₁
    refine wpAny_mono (turn i v m₁ hh' tk' own hin hP hJ F₁ N₁) (fun f s₂ p => ?_) fun _ _ e => e
    cases f with
    | ret v => exact .ret p
    | brk => exact p.elim
    | next =>
      obtain ⟨h', tk, m', rfl, F', N', hj'⟩ := p
      exact .next ⟨rfl, h', tk, m', news₁, rfl, F', N', hoff, rfl, hj'⟩
    | cont =>
      obtain ⟨h', tk, m', rfl, F', N', hj'⟩ := p
      exact .cont ⟨rfl, h', tk, m', news₁, rfl, F', N', hoff, rfl, hj'⟩
  · rintro h' tk m' news' F' N' _ ⟨rfl, hJ⟩
    exact done m' h' tk hJ F' N'

/-- a range, up or down, whatever its step -/
theorem iter_range {r : Addr} {a₀ b₀ c₀ : Int} {t₀ u₀ v₀ : Tok} {n : Nat} {m₀ : Str → Option Value} {news : List (Addr × Obj)} (J : Nat → (Str → Option Value) → Prop)
    (hh : A.handled = none) (hr : IsRange s.heap r a₀ b₀ c₀ t₀ u₀ v₀) (hsmall : Builtin.Range.small a₀ b₀ c₀ = true) (hn : Builtin.Range.rangeSize a₀ b₀ c₀ = (n : Int)) (F : Fr h₀ env.locals s.heap m₀) (N : News h₀ env.locals s.heap news) (hj : J 0 m₀)
    (turn : ∀ i t m₁ h tk own, i < n → J i m₁ → Fr h₀ env.locals h (fun y => if y = x then some (.int (a₀ + (i : Int) * c₀) t) else m₁ y) → News h₀ env.locals h (own ++ news) →
      wpAny (model prog w) A (execs body env) (Turn h₀ env.locals (J (i + 1)) (own ++ news) { s with heap := h, toks := tk } fun v s' => Q (.ret v) s') E { s with heap := h, toks := tk })
    (done : ∀ m₁ h tk, J n m₁ → Fr h₀ env.locals h m₁ → News h₀ env.locals h news → Q .next { s with heap := h, toks := tk }) :
    wpAny (model prog w) A (pyIter (.ref r)) (fun it s₂ => LoopAtV prog w A h₀ env x body Q E it s₂) E s := by
  refine wpAny_pyIter_range hr hsmall ?_
  have W : Walks prog w A s.heap.objs.size [s.heap.objs.size] [s.heap.objs.size] n (fun i v => ∃ t, v = .int (a₀ + i * c₀) t)
      (fun i h => IsRangeIter h s.heap.objs.size (a₀ + (i : Nat) * c₀) ((n : Int) - (i : Nat)) c₀) := Walks.range hh _ a₀ c₀ n
  refine loop_const J W ?_ ?_ ?_ (by show IsRangeIter _ _ _ _ _; rw [hn]; simpa using Heap.get?_push_size _ rfl) (F.push _) (fun p hp => ⟨Heap.get?_push_of_some _ (N p hp).1, (N p hp).2⟩) hj ?_ ?_
  · intro hm
    exact absurd F.ns.lt ((List.mem_singleton.mp hm) ▸ Nat.lt_irrefl _)
  · intro b hb
    rw [List.mem_singleton.mp hb]
    exact next_is_new F
  · intro p hp hI
    exact absurd (Heap.lt_size (N p hp).1) ((List.mem_singleton.mp hI) ▸ Nat.lt_irrefl _)
  · rintro i v m₁ h tk own hi ⟨t, rfl⟩ hJ F₁ N₁
    exact turn i t m₁ h tk own hi hJ F₁ N₁
  · intro m₁ h tk hJ F₁ N₁
    exact done m₁ h tk hJ F₁ N₁
end


section
variable {prog : Program} {w : World} {A : Around} {E : Value → Shared → Prop} {s : Shared} {env : Env} {h₀ : Heap} {x : Str} {body : List Stmt} {Q : Flow → Shared → Prop}
/-- a list that stands in the caller's heap -/
theorem iter_list {l : Addr} {vs : Array Value} {m₀ : Str → Option Value} {news : List (Addr × Obj)} (J : Nat → (Str → Option Value) → Prop)
    (hh : A.handled = none) (hl : h₀.IsList l vs) (F : Fr h₀ env.locals s.heap m₀) (N : News h₀ env.locals s.heap news) (hj : J 0 m₀)
    (turn : ∀ i v m₁ h tk own, i < vs.size → vs[i]? = some v → J i m₁ → Fr h₀ env.locals h (fun y => if y = x then some v else m₁ y) → News h₀ env.locals h (own ++ news) →
      wpAny (model prog w) A (execs body env) (Turn h₀ env.locals (J (i + 1)) (own ++ news) { s with heap := h, toks := tk } fun v s' => Q (.ret v) s') E { s with heap := h, toks := tk })
    (done : ∀ m₁ h tk, J vs.size m₁ → Fr h₀ env.locals h m₁ → News h₀ env.locals h news → Q .next { s with heap := h, toks := tk }) :
    wpAny (model prog w) A (pyIter (.ref l)) (fun it s₂ => LoopAtV prog w A h₀ env x body Q E it s₂) E s := by
  have hls : s.heap.IsList l vs := hl.at fun o e => F.keep l o e
  obtain ⟨ol, hol, _⟩ := id hl
  have hlt : l < h₀.objs.size := Heap.lt_size hol
  have hne : l ≠ s.heap.objs.size := Nat.ne_of_lt (Nat.lt_trans (Nat.lt_of_lt_of_le hlt F.above) F.ns.lt)
  refine wpAny_pyIter_list hls ?_
  have W := Walks.list (prog := prog) (w := w) hh s.heap.objs.size l hne vs
  refine loop_const J W ?_ ?_ ?_ ⟨⟨_, Heap.get?_push_size _ rfl, rfl, rfl⟩, hls.at fun o e => Heap.get?_push_of_some _ e⟩ (F.push _) (fun p hp => ⟨Heap.get?_push_of_some _ (N p hp).1, (N p hp).2⟩) hj ?_ ?_
  · intro hm
    rcases List.mem_cons.mp hm with e | hm
    · exact absurd F.ns.lt (e ▸ Nat.lt_irrefl _)
    · exact absurd (Nat.lt_of_lt_of_le hlt F.above) ((List.mem_singleton.mp hm) ▸ Nat.lt_irrefl _)
  · intro b hb
    rw [List.mem_singleton.mp hb]
    exact next_is_new F
  · intro p hp hI
    exact absurd (Heap.lt_size (N p hp).1) ((List.mem_singleton.mp hI) ▸ Nat.lt_irrefl _)
  · intro i v m₁ h tk own hi hP hJ F₁ N₁
    exact turn i v m₁ h tk own hi hP hJ F₁ N₁
  · intro m₁ h tk hJ F₁ N₁
    exact done m₁ h tk hJ F₁ N₁
end

theorem own_call {w : World} {A : Around} {E : Value → Shared → Prop} {s : Shared} {Q : Value → Shared → Prop} {mg mb : Str → Option Value} {h₀ : Heap} {L a : Addr} {m : Str → Option Value} {cn : Str} {cs : Scope} {ccd : Value} {p pos : Pos} {e : Expr} {rest : List Expr}
    (d : DefItem) (F : Fr h₀ L s.heap m) (G : GG w mg mb h₀) (hd : d ∈ defs)
    (h : ∀ f o, mg d.name = some (.ref f) → h₀.get? f = some o → wpAny (model pw w) A (spliced (backTo pos (starEach (e :: rest) (envOf cn cs L a ccd)))) (fun vs s₁ => s₁.heap.get? f = some o ∧ wpAny (model pw w) A (call (.ref f) vs) Q E s₁) E s)
    (hk : cs.kind = .function) (hx : (envOf cn cs L a ccd).kindOf d.name = some .globalImplicit) (hnd : d.params.defaults = []) (hdb : (d.name == ("__debug__" : Str)) = false)
    (he : starEach (e :: rest) (envOf cn cs L a ccd) = (false, eval e (envOf cn cs L a ccd)) :: starEach rest (envOf cn cs L a ccd) := by rfl)
    (hc : eval (.Call (.Name d.name p) (e :: rest) [] pos) (envOf cn cs L a ccd) = (do callWith pos (← eval (.Name d.name p) (envOf cn cs L a ccd)) [] (backTo pos (starEach (e :: rest) (envOf cn cs L a ccd))) (backToKw pos (keywordEach [] (envOf cn cs L a ccd)))) := by rfl) :
    wpAny (model pw w) A (eval (.Call (.Name d.name p) (e :: rest) [] pos) (envOf cn cs L a ccd)) Q E s := by
  refine Call_ ?_ hc
  obtain ⟨f, c', o, pm, doc, _, _, h3, h4, h5, h6⟩ := (G.made d hd).plain hnd
  refine Name_function_global hk hx (loadGlobal_global (env := envOf cn cs L a ccd) (G.keeps F.keep).g h3 ?_) hdb
  exact callWith_def h5 (h f o h3 h4) he

section
variable {prog : Program} {w : World} {A : Around} {E : Value → Shared → Prop} {s : Shared} {env : Env} {h₀ : Heap} {body : List Stmt} {Q : Flow → Shared → Prop}
theorem turns_pair {xi xc : Str} {pk pv pt : Pos} {x1 : Nat} {I : Addr} {fp wr : List Addr} {n : Nat} {Pt : Nat → Array Value → Prop} {St : Nat → Heap → Prop} {Mid : Nat → Addr → Heap → Prop} {P2 : Nat → Value → Value → Prop}
    {m₀ : Str → Option Value} {news : List (Addr × Obj)} (J : Nat → (Str → Option Value) → Prop)
    (hh : A.handled = none) (W : WalksU prog w A I fp wr n Pt St Mid) (h2 : ∀ i vals, Pt i vals → ∃ v0 v1, vals = #[v0, v1] ∧ P2 i v0 v1)
    (hxi : env.kindOf xi = some .local) (hxc : env.kindOf xc = some .local)
    (hp : (env.scope.kind == .class || (env.scope.kind == .module && env.locals != env.globals)) = false)
    (hLf : env.locals ∉ fp) (hwr : ∀ b ∈ wr, h₀.get? b = none) (hnw : ∀ p ∈ news, p.1 ∉ wr) (hst : St 0 s.heap) (F : Fr h₀ env.locals s.heap m₀) (N : News h₀ env.locals s.heap news) (hj : J 0 m₀)
    (turn : ∀ i v0 v1 m₁ h tk own, i < n → P2 i v0 v1 → J i m₁ → Fr h₀ env.locals h (fun y => if y = xc then some v1 else if y = xi then some v0 else m₁ y) → News h₀ env.locals h (own ++ news) →
      wpAny (model prog w) A (execs body env) (Turn h₀ env.locals (J (i + 1)) (own ++ news) { s with heap := h, toks := tk } fun v s' => Q (.ret v) s') E { s with heap := h, toks := tk })
    (done : ∀ m₁ h tk, J n m₁ → Fr h₀ env.locals h m₁ → News h₀ env.locals h news → Q .next { s with heap := h, toks := tk }) :
    TurnsAt prog w A h₀ env (.Tuple [.Name xi pk, .Name xc pv] x1 pt) body Q E (.ref I) s := by
  refine ⟨I, fp, wr, n, _, _, St, m₀, news, fun i m₁ news₁ => news₁ = news ∧ J i m₁, rfl, KTurns.ofWalksU W, hLf, hwr, hnw, hst, F, N, ⟨rfl, hj⟩, ?_, ?_⟩
  · rintro i v m₁ news₁ h₁ tk₁ own hin ⟨T, vals, rfl, hP, hT⟩ ⟨rfl, hJ⟩ hoff hown _ _ _ F₁ N₁
    obtain ⟨v0, v1, rfl, hP2⟩ := h2 i vals hP
    refine wpAny_assign_Tuple hh hT rfl rfl fun h₃ hx₃ => ?_
    replace hx₃ : Heap.ExtBut h₁.objs.size h₁ h₃ := hx₃
    have up₃ : Grows h₁ h₃ := fun b o x => hx₃ b o (Nat.ne_of_lt (Heap.lt_size x)) x
    have F₃ := F₁.keeps up₃
    have N₃ := N₁.keeps up₃
    show wpAny _ A (do holding [v1] (assign (.Name xi pk) env v0); do holding [] (assign (.Name xc pv) env v1); pure ()) _ _ _
    refine wpAny_bind (wpAny_holding (wpAny_assign_Name (wpAny_storeName_local hxi F₃.ns (fun h₄ hn₄ hs₄ => ?_) hp)))
    replace hs₄ : Heap.SameBut env.locals h₃ h₄ := hs₄
    have F₄ := F₃.set hn₄ hs₄
    refine wpAny_bind (wpAny_holding (wpAny_assign_Name (wpAny_storeName_local hxc F₄.ns (fun h₅ hn₅ hs₅ => wpAny_pure ?_) hp)))
    replace hs₅ : Heap.SameBut env.locals h₄ h₅ := hs₅
    have F₅ := F₄.set hn₅ hs₅
    have N₅ := (N₃.set hs₄).set hs₅
    refine wpAny_mono (turn i v0 v1 m₁ h₅ _ own hin hP2 hJ F₅ N₅) (fun f s₂ p => ?_) fun _ _ e => e
    cases f with
    | ret v => exact .ret p
    | brk => exact p.elim
    | next =>
      obtain ⟨h', tk, m', rfl, F', N', hj'⟩ := p
      exact .next ⟨rfl, h', tk, m', news₁, rfl, F', N', hoff, rfl, hj'⟩
    | cont =>
      obtain ⟨h', tk, m', rfl, F', N', hj'⟩ := p
      exact .cont ⟨rfl, h', tk, m', news₁, rfl, F', N', hoff, rfl, hj'⟩
  · rintro h' tk m' news' F' N' _ ⟨rfl, hJ⟩
    exact done m' h' tk hJ F' N'
end
end Mine
end
section
open PySem PySem.W PyProof.Rows PySem.Calls
set_option maxRecDepth 100000
namespace Mine
def genStep (c : Nat) : Nat := if c % 2 = 1 then (c >>> 1) ^^^ 3988292384 else c >>> 1
def genIter : Nat → Nat → Nat
  | 0, c => c
  | n + 1, c => genStep (genIter n c)
theorem gen_odd {c : Nat} (h : Builtin.bitAnd (c : Int) 1 ≠ 0) : Builtin.bitXor ((c : Int).fdiv (2 ^ Int.toNat 1)) 3988292384 = ((genStep c : Nat) : Int) := by
  have e1 : (c : Int).fdiv (2 ^ Int.toNat 1) = ((c >>> 1 : Nat) : Int) := fdiv_pow_nat c 1
  rw [e1]
  have e2 := bitXor_nat (c >>> 1) 3988292384
  have e3 := bitAnd_m1 (c : Int)
  rw [e3] at h
  unfold genStep
  rw [if_pos (by omega)]
  exact e2
theorem gen_even {c : Nat} (h : Builtin.bitAnd (c : Int) 1 = 0) : (c : Int).fdiv (2 ^ Int.toNat 1) = ((genStep c : Nat) : Int) := by
  have e1 : (c : Int).fdiv (2 ^ Int.toNat 1) = ((c >>> 1 : Nat) : Int) := fdiv_pow_nat c 1
  rw [e1]
  have e3 := bitAnd_m1 (c : Int)
  rw [e3] at h
  unfold genStep
  rw [if_neg (by omega)]
set_option maxHeartbeats 1000000 in
theorem gen_call {w : World} {A : Around} {E : Value → Shared → Prop} {s : Shared} {Q : Value → Shared → Prop} {mg mb : Str → Option Value} {f : Addr} {c : Nat} {tc : Tok}
   (G : GG w mg mb s.heap) (hf : mg "_gen_crc" = some (.ref f)) (hA : A.depth < recursionLimit) (hh : A.handled = none) 
   (hQ : ∀ t h' tk, Grows s.heap h' → Q (.int ((genIter 8 c : Nat) : Int) t) { s with heap := h', toks := tk }) :
   wpAny (model pw w) A (call (.ref f) [.int c tc]) Q E s := by
  refine enter (item 1) [("crc", .int c tc)] G (by simp [defs]) hf hA (fun _ _ _ => rfl) rfl (fun cd h₁ L F => ?_) rfl rfl rfl rfl (by decide)
  conv => arg 3; arg 1; whnf
  have N : News s.heap L h₁ [] := News.nil
  walk1
  refine For_invV s.heap rfl rfl ?_
  iterate 7 walk1
  dsimp only
  refine iter_range (n := 8) (fun i m => ∃ t, m "crc" = some (.int ((genIter i c : Nat) : Int) t)) hh (by assumption) rfl rfl (by assumption) (by assumption) ⟨tc, rfl⟩ ?_ ?_
  · rintro i t m₁ h tk own hi ⟨tj, hj⟩ F₁ N₁
    have F₂ := Fr.over F₁ (x := "crc") hj
    clear F₁
    walk
    · exact Turn.next (by assumption) (by assumption) ⟨_, by rw [genIter, ← gen_odd (by assumption)]; rfl⟩
    · exact Turn.next (by assumption) (by assumption) ⟨_, by rw [genIter, ← gen_even (by assumption)]; rfl⟩
  · rintro m₁ h tk ⟨tj, hj⟩ F₁ N₁
    have F₂ := Fr.over F₁ (x := "crc") hj
    walk
    exact hQ _ _ _ F₂.keep

def flipI (n many : Nat) : Nat → Nat
  | 0 => 0
  | i + 1 => if (n >>> i) % 2 = 1 then flipI n many i ||| 1 <<< (many - 1 - i) else flipI n many i
theorem rsize_up (n : Nat) : Builtin.Range.rangeSize 0 (n : Int) 1 = (n : Int) := by
  unfold Builtin.Range.rangeSize
  by_cases h : (0 : Int) < n
  · simp only [Int.reduceGT, if_true, h]; omega
  · simp only [Int.reduceGT, if_true, h, if_false]; omega
theorem fits_long {i : Int} (h1 : -(2 ^ 62) ≤ i) (h2 : i ≤ 2 ^ 62) : Builtin.Range.rangeFitsLong i = true := by
  unfold Builtin.Range.rangeFitsLong
  rw [Bool.and_eq_true, decide_eq_true_eq, decide_eq_true_eq]
  omega
theorem rsmall_up {n : Nat} (h : n < 2 ^ 62) : Builtin.Range.small 0 (n : Int) 1 = true := by
  unfold Builtin.Range.small
  rw [rsize_up, fits_long (by decide) (by decide), fits_long (by omega) (by omega), fits_long (by decide) (by decide), if_pos (by decide), fits_long (i := (n : Int) + (1 - 1)) (by omega) (by omega)]
  simp
theorem flip_odd {n many i o : Nat} (hi : i < many) (h : Builtin.bitAnd ((n : Int).fdiv (2 ^ Int.toNat (0 + (i : Int) * 1))) 1 ≠ 0) :
    (n >>> i) % 2 = 1 ∧ Builtin.bitOr (o : Int) (1 * 2 ^ Int.toNat ((many : Int) - 1 - (0 + (i : Int) * 1))) = ((o ||| 1 <<< (many - 1 - i) : Nat) : Int) := by
  have e0 : Int.toNat (0 + (i : Int) * 1) = i := by omega
  have e1 : Int.toNat ((many : Int) - 1 - (0 + (i : Int) * 1)) = many - 1 - i := by omega
  rw [e0, fdiv_pow_nat, bitAnd_m1] at h
  rw [e1]
  refine ⟨by omega, ?_⟩
  have e2 := mul_pow_nat 1 (many - 1 - i)
  have e3 : (1 : Int) * 2 ^ (many - 1 - i) = (((1 : Nat) : Int)) * 2 ^ (many - 1 - i) := rfl
  rw [e3, e2, bitOr_nat]
theorem flip_even {n i : Nat} (h : Builtin.bitAnd ((n : Int).fdiv (2 ^ Int.toNat (0 + (i : Int) * 1))) 1 = 0) : ¬ (n >>> i) % 2 = 1 := by
  have e0 : Int.toNat (0 + (i : Int) * 1) = i := by omega
  rw [e0, fdiv_pow_nat, bitAnd_m1] at h
  omega
set_option maxHeartbeats 1000000 in
theorem flip_call {w : World} {A : Around} {E : Value → Shared → Prop} {s : Shared} {Q : Value → Shared → Prop} {mg mb : Str → Option Value} {f : Addr} {c many : Nat} {tc tm : Tok}
   (G : GG w mg mb s.heap) (hf : mg "_law_flip" = some (.ref f)) (hA : A.depth < recursionLimit) (hh : A.handled = none) (hm : many ≤ 1000)
   (hQ : ∀ t h' tk, Grows s.heap h' → Q (.int ((flipI c many many : Nat) : Int) t) { s with heap := h', toks := tk }) :
   wpAny (model pw w) A (call (.ref f) [.int c tc, .int many tm]) Q E s := by
  refine enter (item 14) [("number", .int c tc), ("many", .int many tm)] G (by simp [defs]) hf hA (fun _ _ _ => rfl) rfl (fun cd h₁ L F => ?_) rfl rfl rfl rfl (by decide)
  conv => arg 3; arg 1; whnf
  have N : News s.heap L h₁ [] := News.nil
  iterate 5 walk1
  refine For_invV s.heap rfl rfl ?_
  iterate 7 walk1
  dsimp only
  refine iter_range (n := many) (fun i m => m "number" = some (.int (c : Int) tc) ∧ m "many" = some (.int (many : Int) tm) ∧ ∃ t, m "other" = some (.int ((flipI c many i : Nat) : Int) t)) hh (by assumption) (rsmall_up (by omega)) (rsize_up many) (by assumption) (by assumption) ⟨rfl, rfl, _, rfl⟩ ?_ ?_
  · rintro i t m₁ h tk own hi ⟨hj1, hj2, tj, hj⟩ F₁ N₁
    have F₂ := Fr.over (Fr.over (Fr.over F₁ (x := "number") hj1) (x := "many") hj2) (x := "other") hj
    clear F₁
    walk
    · obtain ⟨q1, q2⟩ := flip_odd (o := flipI c many i) hi (by assumption)
      exact Turn.next (by assumption) (by assumption) ⟨rfl, rfl, _, by rw [flipI, if_pos q1, ← q2]; rfl⟩
    · exact Turn.next (by assumption) (by assumption) ⟨rfl, rfl, _, by rw [flipI, if_neg (flip_even (by assumption))]; rfl⟩
  · rintro m₁ h tk ⟨hj1, hj2, tj, hj⟩ F₁ N₁
    have F₂ := Fr.over F₁ (x := "other") hj
    walk
    exact hQ _ _ _ F₂.keep

def backStep (r : Nat) : Nat := if r >>> 31 = 0 then r <<< 1 else (r ^^^ 3988292384) <<< 1 ||| 1
def backIter : Nat → Nat → Nat
  | 0, r => r
  | n + 1, r => backStep (backIter n r)
theorem backStep_lt {r : Nat} (h : r < 2 ^ 32) : backStep r < 2 ^ 32 := by
  unfold backStep
  rw [Nat.shiftRight_eq_div_pow]
  split
  · rw [Nat.shiftLeft_eq]; omega
  · have h1 : r ^^^ 3988292384 < 2 ^ 31 := by
      have e : r = 2 ^ 31 + (r - 2 ^ 31) := by omega
      have h2 : r - 2 ^ 31 < 2 ^ 31 := by omega
      refine Nat.lt_pow_two_of_testBit _ fun i hi => ?_
      rw [Nat.testBit_xor]
      by_cases h31 : i = 31
      · subst h31
        have t1 : r.testBit 31 = true := by
          rw [Nat.testBit_eq_decide_div_mod_eq]; simp; omega
        rw [t1]; decide
      · have t1 : r.testBit i = false := Nat.testBit_lt_two_pow (Nat.lt_of_lt_of_le h (Nat.pow_le_pow_right (by decide) (by omega)))
        have t2 : Nat.testBit 3988292384 i = false := Nat.testBit_lt_two_pow (Nat.lt_of_lt_of_le (by decide : 3988292384 < 2 ^ 32) (Nat.pow_le_pow_right (by decide) (by omega)))
        rw [t1, t2]; rfl
    have h3 : (r ^^^ 3988292384) <<< 1 < 2 ^ 32 := by rw [Nat.shiftLeft_eq]; omega
    exact Nat.or_lt_two_pow h3 (by decide)
theorem backIter_lt {r : Nat} (h : r < 2 ^ 32) : ∀ n, backIter n r < 2 ^ 32
  | 0 => h
  | n + 1 => backStep_lt (backIter_lt h n)
theorem back_hi {r : Nat} (h : (r : Int).fdiv (2 ^ Int.toNat 31) ≠ 0) : Builtin.bitOr (Builtin.bitXor (r : Int) 3988292384 * 2 ^ Int.toNat 1) 1 = ((backStep r : Nat) : Int) := by
  have e1 : (r : Int).fdiv (2 ^ Int.toNat 31) = ((r >>> 31 : Nat) : Int) := fdiv_pow_nat r 31
  rw [e1] at h
  unfold backStep
  rw [if_neg (by omega)]
  have e2 : Builtin.bitXor (r : Int) 3988292384 = ((r ^^^ 3988292384 : Nat) : Int) := bitXor_nat r 3988292384
  have e3 := mul_pow_nat (r ^^^ 3988292384) 1
  rw [e2]
  show Builtin.bitOr (((r ^^^ 3988292384 : Nat) : Int) * 2 ^ 1) 1 = _
  rw [e3]
  exact bitOr_nat _ 1
theorem back_lo {r : Nat} (h : (r : Int).fdiv (2 ^ Int.toNat 31) = 0) : (r : Int) * 2 ^ Int.toNat 1 = ((backStep r : Nat) : Int) := by
  have e1 : (r : Int).fdiv (2 ^ Int.toNat 31) = ((r >>> 31 : Nat) : Int) := fdiv_pow_nat r 31
  rw [e1] at h
  unfold backStep
  rw [if_pos (by omega)]
  exact mul_pow_nat _ 1
set_option maxHeartbeats 1000000 in
theorem back_call {w : World} {A : Around} {E : Value → Shared → Prop} {s : Shared} {Q : Value → Shared → Prop} {mg mb : Str → Option Value} {f : Addr} {c many : Nat} {tc tm : Tok}
   (G : GG w mg mb s.heap) (hf : mg "_law_back" = some (.ref f)) (hA : A.depth < recursionLimit) (hh : A.handled = none) (hm : many ≤ 1000) (hc : c < 2 ^ 32)
   (hQ : ∀ t h' tk, Grows s.heap h' → Q (.int ((backIter many c : Nat) : Int) t) { s with heap := h', toks := tk }) :
   wpAny (model pw w) A (call (.ref f) [.int c tc, .int many tm]) Q E s := by
  refine enter (item 16) [("register", .int c tc), ("turns", .int many tm)] G (by simp [defs]) hf hA (fun _ _ _ => rfl) rfl (fun cd h₁ L F => ?_) rfl rfl rfl rfl (by decide)
  conv => arg 3; arg 1; whnf
  have N : News s.heap L h₁ [] := News.nil
  walk1
  refine For_invV s.heap rfl rfl ?_
  iterate 7 walk1
  dsimp only
  refine iter_range (n := many) (fun i m => ∃ t, m "register" = some (.int ((backIter i c : Nat) : Int) t)) hh (by assumption) (rsmall_up (by omega)) (rsize_up many) (by assumption) (by assumption) ⟨_, rfl⟩ ?_ ?_
  · rintro i t m₁ h tk own hi ⟨tj, hj⟩ F₁ N₁
    have F₂ := Fr.over F₁ (x := "register") hj
    have hlt := backIter_lt hc i
    have hx : backIter i c ^^^ 3988292384 < 2 ^ 32 := Nat.xor_lt_two_pow hlt (by decide)
    clear F₁
    walk
    · refine lshift_int_small (by decide) (by decide) (by rw [show Builtin.bitXor (↑(backIter i c)) 3988292384 = ((backIter i c ^^^ 3988292384 : Nat) : Int) from bitXor_nat _ 3988292384]; omega) ?_
      walk
      exact Turn.next (by assumption) (by assumption) ⟨_, by rw [backIter, ← back_hi (by assumption)]; rfl⟩
    · exact Turn.next (by assumption) (by assumption) ⟨_, by rw [backIter, ← back_lo (by assumption)]; rfl⟩
  · rintro m₁ h tk ⟨tj, hj⟩ F₁ N₁
    have F₂ := Fr.over F₁ (x := "register") hj
    walk
    exact hQ _ _ _ F₂.keep
end Mine
end
section
open PySem PySem.W PyProof.Rows PySem.Calls
set_option maxRecDepth 100000
namespace Mine
/-- the values are these numbers -/
def NatsAre (vs : List Value) (ns : List Nat) : Prop := vs.length = ns.length ∧ ∀ (i n : Nat), ns[i]? = some n → ∃ t, vs[i]? = some (Value.int (n : Int) t)
def along (r : Nat) (os : List Nat) : Nat := os.foldl (fun r o => genIter 8 (r ^^^ o)) r
theorem along_succ (r : Nat) (os : List Nat) (i : Nat) (h : i < os.length) : along r (os.take (i + 1)) = genIter 8 (along r (os.take i) ^^^ os[i]) := by
  unfold along
  rw [List.take_add_one, List.foldl_append, List.getElem?_eq_getElem h]
  rfl
set_option maxHeartbeats 1000000 in
theorem along_call {w : World} {A : Around} {E : Value → Shared → Prop} {s : Shared} {Q : Value → Shared → Prop} {mg mb : Str → Option Value} {f : Addr} {r : Nat} {tc : Tok} {l : Addr} {vs : List Value} {os : List Nat}
   (G : GG w mg mb s.heap) (hf : mg "_law_along" = some (.ref f)) (hA : A.depth + 1 < recursionLimit) (hh : A.handled = none) (hl : s.heap.IsList l vs.toArray) (ho : NatsAre vs os)
   (hQ : ∀ t h' tk, Grows s.heap h' → Q (.int ((along r os : Nat) : Int) t) { s with heap := h', toks := tk }) :
   wpAny (model pw w) A (call (.ref f) [.int r tc, .ref l]) Q E s := by
  refine enter (item 18) [("register", .int r tc), ("octets", .ref l)] G (by simp [defs]) hf (by omega) (fun _ _ _ => rfl) rfl (fun cd h₁ L F => ?_) rfl rfl rfl rfl (by decide)
  conv => arg 3; arg 1; whnf
  have N : News s.heap L h₁ [] := News.nil
  walk1
  refine For_invV s.heap rfl rfl ?_
  walk1
  refine iter_list (fun i m => ∃ t, m "register" = some (.int ((along r (os.take i) : Nat) : Int) t)) hh hl (by assumption) (by assumption) ⟨_, rfl⟩ ?_ ?_
  · rintro i v m₁ h tk own hi hv ⟨tj, hj⟩ F₁ N₁
    have hi' : i < os.length := by have := ho.1; simp at hi; omega
    obtain ⟨t, ht⟩ := ho.2 i os[i] (by simp [hi'])
    obtain rfl : v = .int (os[i] : Int) t := by simp [ht] at hv; exact hv.symm
    have F₂ := Fr.over F₁ (x := "register") hj
    clear F₁
    walk1
    walk1
    refine own_call (item 1) F₂ G (by simp [defs]) (fun f o hf ho => ?_) rfl rfl rfl (by decide)
    iterate 6 walk1
    dsimp only
    rw [show Builtin.bitXor (along r (List.take i os) : Int) (os[i] : Int) = ((along r (List.take i os) ^^^ os[i] : Nat) : Int) from bitXor_nat _ _]
    refine gen_call (G.keeps F₂.keep) hf (by simp only [depth_deeper]; omega) hh fun t h' tk hk => ?_
    have F₃ := F₂.keeps hk
    have N₃ := N₁.keeps hk
    dsimp only
    walk
    exact Turn.next (by assumption) (by assumption) ⟨_, by rw [along_succ r os i hi']; rfl⟩
  · rintro m₁ h tk ⟨tj, hj⟩ F₁ N₁
    have F₂ := Fr.over F₁ (x := "register") hj
    have e : os.take vs.toArray.size = os := by rw [List.size_toArray, ho.1]; exact List.take_length
    rw [e] at F₂
    walk
    exact hQ _ _ _ F₂.keep
end Mine
end
section
open PySem PySem.W PyProof.Rows PySem.Calls
set_option maxRecDepth 100000
namespace Mine
local macro_rules | `(tactic| walk_at "to LShift") => `(tactic| repeat ((fail_if_success (with_reducible show wpAny _ _ (binaryOp Operator.LShift _ _) _ _ _)); walk1))
local macro_rules | `(tactic| walk_at "to call") => `(tactic| repeat ((fail_if_success (with_reducible show wpAny _ _ (call (Value.ref _) _) _ _ _)); walk1))
local macro_rules | `(tactic| walk_at "to For") => `(tactic| repeat ((fail_if_success (with_reducible show wpAny _ _ (exec (Stmt.For _ _ _ _ _) _) _ _ _)); walk1))
local macro_rules | `(tactic| walk_at "to iter") => `(tactic| repeat ((fail_if_success (with_reducible show wpAny _ _ (pyIter _) _ _ _)); walk1))
/-- the values are texts of one sign each -/
def SignsAre (vs : List Value) (cs : List Nat) : Prop := vs.length = cs.length ∧ ∀ (i c : Nat), cs[i]? = some c → ∃ t, vs[i]? = some (Value.str ⟨#[c]⟩ t)
def natOf (cs : List Nat) : Nat := cs.foldl (fun n c => n <<< 8 ||| flipI c 8 8) 0
theorem natOf_succ (cs : List Nat) (i : Nat) (h : i < cs.length) : natOf (cs.take (i + 1)) = natOf (cs.take i) <<< 8 ||| flipI cs[i] 8 8 := by
  unfold natOf
  rw [List.take_add_one, List.foldl_append, List.getElem?_eq_getElem h]
  rfl
theorem flipI_lt (c many : Nat) : ∀ i, i ≤ many → flipI c many i < 2 ^ many
  | 0, _ => Nat.two_pow_pos _
  | i + 1, h => by
    have ih := flipI_lt c many i (by omega)
    unfold flipI
    split
    · refine Nat.or_lt_two_pow ih ?_
      rw [Nat.one_shiftLeft]
      exact Nat.pow_lt_pow_right (by decide) (by omega)
    · exact ih
theorem natOf_lt (cs : List Nat) : ∀ i, i ≤ cs.length → natOf (cs.take i) < 2 ^ (8 * i)
  | 0, _ => by simp [natOf]
  | i + 1, h => by
    have ih := natOf_lt cs i (by omega)
    rw [natOf_succ cs i (by omega)]
    have e : 8 * (i + 1) = 8 * i + 8 := by omega
    rw [e]
    refine Nat.or_lt_two_pow ?_ ?_
    · rw [Nat.shiftLeft_eq, Nat.pow_add]; exact Nat.mul_lt_mul_of_pos_right ih (by decide)
    · exact Nat.lt_of_lt_of_le (flipI_lt _ 8 8 (by decide)) (Nat.pow_le_pow_right (by decide) (by omega))
section
variable {prog : Program} {w : World} {A : Around} {E : Value → Shared → Prop} {s : Shared} {Q : Value → Shared → Prop}
theorem lshift_nat {a n m : Nat} {t u : Tok} (ha : a < 2 ^ m) (hm : m + n ≤ 100000) (h : Q (.int ((a <<< n : Nat) : Int) s.toks) { s with toks := s.toks + 1 }) :
    wpAny (model prog w) A (binaryOp .LShift (.int (a : Int) t) (.int (n : Int) u)) Q E s := by
  refine lshift_int (Int.natCast_nonneg _) ?_ ?_
  · have : Builtin.Int.intBits (a : Int) ≤ m := intBits_le_iff.mpr (by simpa using ha)
    omega
  · rw [Int.toNat_natCast, mul_pow_nat]; exact h
end
def divStep (n place : Nat) : Nat := if (n >>> place) % 2 = 1 then n ^^^ (4374732215 <<< (place - 32)) else n
def divIter (many n : Nat) : Nat → Nat
  | 0 => n
  | i + 1 => divStep (divIter many n i) (many + 31 - i)
def crcStart (cs : List Nat) : Nat := (natOf cs <<< 32) ^^^ (4294967295 <<< (8 * cs.length))
def crcOf (cs : List Nat) : Nat := flipI (divIter (8 * cs.length) (crcStart cs) (8 * cs.length)) 32 32 ^^^ 4294967295
theorem div_odd {N M i : Nat} (hi : i < M) (h : Builtin.bitAnd ((N : Int).fdiv (2 ^ Int.toNat ((M : Int) + 31 + (i : Int) * -1))) 1 ≠ 0) :
    (N >>> (M + 31 - i)) % 2 = 1 ∧ Builtin.bitXor (N : Int) (4374732215 * 2 ^ Int.toNat ((M : Int) + 31 + (i : Int) * -1 - 32)) = ((N ^^^ (4374732215 <<< (M + 31 - i - 32)) : Nat) : Int) := by
  have e0 : Int.toNat ((M : Int) + 31 + (i : Int) * -1) = M + 31 - i := by omega
  have e1 : Int.toNat ((M : Int) + 31 + (i : Int) * -1 - 32) = M + 31 - i - 32 := by omega
  rw [e0, fdiv_pow_nat, bitAnd_m1] at h
  rw [e1]
  refine ⟨by omega, ?_⟩
  have e3 := mul_pow_nat 4374732215 (M + 31 - i - 32)
  show Builtin.bitXor (N : Int) (((4374732215 : Nat) : Int) * 2 ^ (M + 31 - i - 32)) = _
  rw [e3, bitXor_nat]
theorem div_even {N M i : Nat} (h : Builtin.bitAnd ((N : Int).fdiv (2 ^ Int.toNat ((M : Int) + 31 + (i : Int) * -1))) 1 = 0) : ¬ (N >>> (M + 31 - i)) % 2 = 1 := by
  by_cases hi : i ≤ M + 31
  · have e0 : Int.toNat ((M : Int) + 31 + (i : Int) * -1) = M + 31 - i := by omega
    rw [e0, fdiv_pow_nat, bitAnd_m1] at h
    omega
  · have e0 : Int.toNat ((M : Int) + 31 + (i : Int) * -1) = M + 31 - i := by omega
    rw [e0, fdiv_pow_nat, bitAnd_m1] at h
    omega
set_option maxHeartbeats 4000000 in
theorem crc_call {w : World} {A : Around} {E : Value → Shared → Prop} {s : Shared} {Q : Value → Shared → Prop} {mg mb : Str → Option Value} {f : Addr} {l : Addr} {vs : List Value} {cs : List Nat}
   (G : GG w mg mb s.heap) (hf : mg "_law_crc" = some (.ref f)) (hA : A.depth + 1 < recursionLimit) (hh : A.handled = none) (hl : s.heap.IsList l vs.toArray) (ho : SignsAre vs cs) (hn : cs.length ≤ 100)
   (hQ : ∀ t h' tk, Grows s.heap h' → Q (.int ((crcOf cs : Nat) : Int) t) { s with heap := h', toks := tk }) :
   wpAny (model pw w) A (call (.ref f) [.ref l]) Q E s := by
  refine enter (item 15) [("name", .ref l)] G (by simp [defs]) hf (by omega) (fun _ _ _ => rfl) rfl (fun cd h₁ L F => ?_) rfl rfl rfl rfl (by decide)
  conv => arg 3; arg 1; whnf
  have N : News s.heap L h₁ [] := News.nil
  have G0 : Kept (GG w mg mb s.heap) := ⟨G⟩
  walk_at "to For"
  refine For_invV s.heap rfl rfl ?_
  walk1
  refine iter_list (fun i m => m "name" = some (.ref l) ∧ ∃ t, m "natural" = some (.int ((natOf (cs.take i) : Nat) : Int) t)) hh hl (by assumption) (by assumption) ⟨rfl, _, rfl⟩ ?_ ?_
  · rintro i v m₁ h tk own hi hv ⟨hj0, tj, hj⟩ F₁ N₁
    have hi' : i < cs.length := by have := ho.1; simp at hi; omega
    obtain ⟨t, ht⟩ := ho.2 i cs[i] (by simp [hi'])
    obtain rfl : v = .str ⟨#[cs[i]]⟩ t := by simp [ht] at hv; exact hv.symm
    have F₂ := Fr.over (Fr.over F₁ (x := "natural") hj) (x := "name") hj0
    clear F₁
    walk_at "to LShift"
    refine lshift_nat (n := 8) (natOf_lt cs i (by omega)) (by omega) ?_
    refine own_call (item 14) F₂ G0.out (by simp [defs]) (fun f o hf ho => ?_) rfl rfl rfl (by decide)
    walk_at "to call"
    dsimp only
    refine flip_call (many := 8) (G0.out.keeps F₂.keep) hf (by rw [depth_deeper]; omega) hh (by decide) fun t h' tk hk => ?_
    have F₃ := F₂.keeps hk
    have N₃ := N₁.keeps hk
    dsimp only
    walk
    exact Turn.next (by assumption) (by assumption) ⟨rfl, _, by rw [natOf_succ cs i hi', ← bitOr_nat]; rfl⟩
  · rintro m₁ h tk ⟨hj0, tj, hj⟩ F₁ N₁
    have F₂ := Fr.over (Fr.over F₁ (x := "natural") hj) (x := "name") hj0
    have e : cs.take vs.toArray.size = cs := by rw [List.size_toArray, ho.1]; exact List.take_length
    rw [e] at F₂
    have hlen : vs.toArray.size = cs.length := by simp [ho.1]
    clear F₁
    iterate 13 walk1
    (rename Fr _ _ _ _ => F₃); (rename News _ _ _ _ => N₃)
    rw [hlen, show (8 * (cs.length : Int)) = ((8 * cs.length : Nat) : Int) by omega] at F₃
    walk_at "to LShift"
    refine lshift_nat (n := 32) (m := 8 * cs.length) (by have := natOf_lt cs cs.length (Nat.le_refl _); rwa [List.take_length] at this) (by omega) ?_
    walk_at "to LShift"
    refine lshift_nat (a := 4294967295) (m := 32) (by decide) (by omega) ?_
    walk_at "to For"
    (rename Fr _ _ _ _ => F₄); (rename News _ _ _ _ => N₄)
    rw [bitXor_nat] at F₄
    refine For_invV s.heap rfl rfl ?_
    walk_at "to iter"
    (rename IsRange _ _ _ _ _ _ _ _ => hr)
    dsimp only at hr ⊢
    refine iter_range (n := 8 * cs.length) (fun i m => ∃ t, m "natural" = some (.int ((divIter (8 * cs.length) (crcStart cs) i : Nat) : Int) t)) hh hr (small_down (by omega) (by omega) (by decide) (by decide)) (by rw [rangeSize_downNat]; omega) (by assumption) (by assumption) ⟨_, rfl⟩ ?_ ?_
    · rintro i t m₁ h tk own hi ⟨tj, hj⟩ F₁ N₁
      have F₂ := Fr.over F₁ (x := "natural") hj
      clear F₁
      walk_at "to LShift"
      all_goals first
        | (refine lshift_int_small (by omega) (by omega) (by decide) ?_
           walk
           (have q := div_odd hi (by assumption))
           exact Turn.next (by assumption) (by assumption) ⟨_, by rw [divIter, divStep, if_pos q.1, ← q.2]; rfl⟩)
        | (walk
           exact Turn.next (by assumption) (by assumption) ⟨_, by rw [divIter, divStep, if_neg (div_even (by assumption))]; rfl⟩)
    · rintro m₁ h tk ⟨tj, hj⟩ F₁ N₁
      have F₂ := Fr.over F₁ (x := "natural") hj
      clear F₁
      iterate 3 walk1
      refine own_call (item 14) F₂ G0.out (by simp [defs]) (fun f o hf ho => ?_) rfl rfl rfl (by decide)
      walk_at "to call"
      dsimp only
      refine flip_call (many := 32) (G0.out.keeps F₂.keep) hf (by rw [depth_deeper]; omega) hh (by decide) fun t h' tk hk => ?_
      have F₃ := F₂.keeps hk
      have N₃ := N₁.keeps hk
      dsimp only
      walk
      have q := hQ (tk + 1) h' (tk + 1 + 1) F₃.keep
      rw [crcOf, ← bitXor_nat] at q
      exact q
end Mine
end
section
open PySem PySem.W PyProof.Rows PySem.Calls
set_option maxRecDepth 100000
namespace Mine
local macro_rules | `(tactic| walk_at "to get") => `(tactic| repeat ((fail_if_success (with_reducible show wpAny _ _ (call (Value.builtin "dict.get") _) _ _ _)); walk1))
set_option maxHeartbeats 1000000 in
theorem in_b1_call {w : World} {A : Around} {E : Value → Shared → Prop} {s : Shared} {Q : Value → Shared → Prop} {mg mb : Str → Option Value} {f : Addr} {c : Nat} {tc : Tok}
   (G : GG w mg mb s.heap) (hf : mg "in_table_b1" = some (.ref f)) (hA : A.depth < recursionLimit)
   (hQ : ∀ h' tk, Grows s.heap h' → Q (.bool (b1L.contains (c : Int))) { s with heap := h', toks := tk }) :
   wpAny (model pw w) A (call (.ref f) [.str ⟨#[c]⟩ tc]) Q E s := by
  refine enter (item 4) [("code", .str ⟨#[c]⟩ tc)] G (by simp [defs]) hf hA (fun _ _ _ => rfl) rfl (fun cd h₁ L F => ?_) rfl rfl rfl rfl (by decide)
  conv => arg 3; arg 1; whnf
  have N : News s.heap L h₁ [] := News.nil
  have G0 : Kept (GG w mg mb s.heap) := ⟨G⟩
  iterate 10 walk1
  refine ld_obj (P := IsIntSet w b1L) (G0.out.keeps F.keep) (by simp [objs]) (fun b o hb ho hP => ?_)
  obtain ⟨S, n, hso, hS, hn⟩ := hP
  refine wpAny_inSet_of (knd := intKind pw w) (k := (c : Int)) (intKind_is _ _ _ _) rfl (hso.setOf ho hn) ?_
  rw [hS]
  exact hQ _ _ F.keep
set_option maxHeartbeats 1000000 in
theorem in_c7_call {w : World} {A : Around} {E : Value → Shared → Prop} {s : Shared} {Q : Value → Shared → Prop} {mg mb : Str → Option Value} {f : Addr} {c : Nat} {tc : Tok}
   (G : GG w mg mb s.heap) (hf : mg "in_table_c7" = some (.ref f)) (hA : A.depth < recursionLimit)
   (hQ : ∀ h' tk, Grows s.heap h' → Q (.bool (c7L.contains (c : Int))) { s with heap := h', toks := tk }) :
   wpAny (model pw w) A (call (.ref f) [.str ⟨#[c]⟩ tc]) Q E s := by
  refine enter (item 8) [("code", .str ⟨#[c]⟩ tc)] G (by simp [defs]) hf hA (fun _ _ _ => rfl) rfl (fun cd h₁ L F => ?_) rfl rfl rfl rfl (by decide)
  conv => arg 3; arg 1; whnf
  have N : News s.heap L h₁ [] := News.nil
  have G0 : Kept (GG w mg mb s.heap) := ⟨G⟩
  iterate 10 walk1
  refine ld_obj (P := IsIntSet w c7L) (G0.out.keeps F.keep) (by simp [objs]) (fun b o hb ho hP => ?_)
  obtain ⟨S, n, hso, hS, hn⟩ := hP
  refine wpAny_inSet_of (knd := intKind pw w) (k := (c : Int)) (intKind_is _ _ _ _) rfl (hso.setOf ho hn) ?_
  rw [hS]
  exact hQ _ _ F.keep
set_option maxHeartbeats 1000000 in
theorem in_c9_call {w : World} {A : Around} {E : Value → Shared → Prop} {s : Shared} {Q : Value → Shared → Prop} {mg mb : Str → Option Value} {f : Addr} {c : Nat} {tc : Tok}
   (G : GG w mg mb s.heap) (hf : mg "in_table_c9" = some (.ref f)) (hA : A.depth < recursionLimit)
   (hQ : ∀ h' tk, Grows s.heap h' → Q (.bool (c9L.contains (c : Int))) { s with heap := h', toks := tk }) :
   wpAny (model pw w) A (call (.ref f) [.str ⟨#[c]⟩ tc]) Q E s := by
  refine enter (item 10) [("code", .str ⟨#[c]⟩ tc)] G (by simp [defs]) hf hA (fun _ _ _ => rfl) rfl (fun cd h₁ L F => ?_) rfl rfl rfl rfl (by decide)
  conv => arg 3; arg 1; whnf
  have N : News s.heap L h₁ [] := News.nil
  have G0 : Kept (GG w mg mb s.heap) := ⟨G⟩
  iterate 10 walk1
  refine ld_obj (P := IsIntSet w c9L) (G0.out.keeps F.keep) (by simp [objs]) (fun b o hb ho hP => ?_)
  obtain ⟨S, n, hso, hS, hn⟩ := hP
  refine wpAny_inSet_of (knd := intKind pw w) (k := (c : Int)) (intKind_is _ _ _ _) rfl (hso.setOf ho hn) ?_
  rw [hS]
  exact hQ _ _ F.keep
set_option maxHeartbeats 1000000 in
theorem b3_call {w : World} {A : Around} {E : Value → Shared → Prop} {s : Shared} {Q : Value → Shared → Prop} {mg mb : Str → Option Value} {f : Addr} {c : Nat} {tc : Tok} {x : Str}
   (G : GG w mg mb s.heap) (hf : mg "map_table_b3" = some (.ref f)) (hA : A.depth < recursionLimit)
   (hx : Spec.lookup (.int (c : Int)) b3D = some (.str x) ∨ (Spec.lookup (.int (c : Int)) b3D = none ∧ Txt.lower ⟨#[c]⟩ = x))
   (hQ : ∀ t h' tk, Grows s.heap h' → Q (.str x t) { s with heap := h', toks := tk }) :
   wpAny (model pw w) A (call (.ref f) [.str ⟨#[c]⟩ tc]) Q E s := by
  refine enter (item 6) [("code", .str ⟨#[c]⟩ tc)] G (by simp [defs]) hf hA (fun _ _ _ => rfl) rfl (fun cd h₁ L F => ?_) rfl rfl rfl rfl (by decide)
  conv => arg 3; arg 1; whnf
  have N : News s.heap L h₁ [] := News.nil
  have G0 : Kept (GG w mg mb s.heap) := ⟨G⟩
  walk_at "to get"
  refine call_get1_intTab (TabAt.ofFr (by assumption) F) fun v hv => ?_
  rcases hx with hx | ⟨hx, hl⟩
  · rw [hx] at hv
    obtain ⟨t, rfl⟩ := hv.str_inv
    walk
    (rename Fr _ _ _ _ => F₁)
    exact hQ _ _ _ F₁.keep
  · rw [hx] at hv
    obtain rfl := hv.none_inv
    walk
    (rename Fr _ _ _ _ => F₁)
    refine SCL.lower (by show (1 : Nat) ≤ 5592405; decide) fun _ => ?_
    rw [hl]
    exact hQ _ _ _ F₁.keep
end Mine
end
section
open PySem PySem.W PyProof.Rows PySem.Calls
set_option maxRecDepth 100000
namespace Mine
def isPair : Expr → Option (Int × Int)
  | .Tuple [.Constant (.int a) _ _, .Constant (.int b) _ _] _ _ => some (a, b)
  | _ => none
def pairsOf : List Expr → Option (List (Int × Int))
  | [] => some []
  | e :: r => match isPair e, pairsOf r with
    | some p, some ps => some (p :: ps)
    | _, _ => none
/-- the values are tuples of these pairs, above n -/
def PairsAt (n : Nat) (h : Heap) : List Value → List (Int × Int) → Prop
  | [], [] => True
  | v :: vs, p :: ps => (∃ T t u, v = .ref T ∧ n ≤ T ∧ h.IsTuple T #[.int p.1 t, .int p.2 u]) ∧ PairsAt n h vs ps
  | _, _ => False
theorem PairsAt.keeps {n : Nat} {h h' : Heap} (k : Grows h h') : ∀ {vs : List Value} {ps : List (Int × Int)}, PairsAt n h vs ps → PairsAt n h' vs ps
  | [], [], _ => trivial
  | v :: vs, p :: ps, ⟨⟨T, t, u, e, hn, ht⟩, r⟩ => ⟨⟨T, t, u, e, hn, ht.at fun o => k _ o⟩, PairsAt.keeps k r⟩
  | [], _ :: _, x => x.elim
  | _ :: _, [], x => x.elim
theorem PairsAt.low {n n' : Nat} {h : Heap} (hl : n' ≤ n) : ∀ {vs : List Value} {ps : List (Int × Int)}, PairsAt n h vs ps → PairsAt n' h vs ps
  | [], [], _ => trivial
  | v :: vs, p :: ps, ⟨⟨T, t, u, e, hn, ht⟩, r⟩ => ⟨⟨T, t, u, e, Nat.le_trans hl hn, ht⟩, PairsAt.low hl r⟩
  | [], _ :: _, x => x.elim
  | _ :: _, [], x => x.elim
theorem PairsAt.length {n : Nat} {h : Heap} : ∀ {vs : List Value} {ps : List (Int × Int)}, PairsAt n h vs ps → vs.length = ps.length
  | [], [], _ => rfl
  | v :: vs, p :: ps, ⟨_, r⟩ => by simp [PairsAt.length r]
  | [], _ :: _, x => x.elim
  | _ :: _, [], x => x.elim
theorem PairsAt.get {n : Nat} {h : Heap} : ∀ {vs : List Value} {ps : List (Int × Int)}, PairsAt n h vs ps → ∀ i, i < ps.length → ∃ T t u, vs[i]? = some (.ref T) ∧ n ≤ T ∧ h.IsTuple T #[.int (ps.getD i (0, 0)).1 t, .int (ps.getD i (0, 0)).2 u]
  | [], [], _, i, hi => absurd hi (Nat.not_lt_zero _)
  | v :: vs, p :: ps, ⟨⟨T, t, u, e, hn, ht⟩, r⟩, i, hi => by
    cases i with
    | zero => exact ⟨T, t, u, by simp [e], hn, by simpa using ht⟩
    | succ i => simpa using PairsAt.get r i (by simpa using hi)
  | [], _ :: _, x, _, _ => x.elim
  | _ :: _, [], x, _, _ => x.elim
section
variable {prog : Program} {w : World} {A : Around} {E : Value → Shared → Prop} {env : Env}
theorem pair_eval {e : Expr} {p : Int × Int} {s : Shared} {Q : Value → Shared → Prop} (he : isPair e = some p)
    (h : ∀ t u h' tk, Grows s.heap h' → h'.IsTuple s.heap.objs.size #[.int p.1 t, .int p.2 u] → Q (.ref s.heap.objs.size) { s with heap := h', toks := tk }) : wpAny (model prog w) A (eval e env) Q E s := by
  unfold isPair at he
  split at he
  · cases he
    refine Tuple_ (args_cons (wpAny_Constant_int (args_cons (wpAny_Constant_int (args_nil ?_)))))
    refine wpAny_newObj_type ?_ (by show (2 : Nat) ≤ sizeLine; decide)
    exact h _ _ _ _ (fun b o e => Heap.get?_push_of_some _ e) ⟨_, Heap.get?_push_size _ rfl, rfl, 0, rfl⟩
  · cases he
theorem pairs_eval {pos : Pos} : ∀ (es : List Expr) (ps : List (Int × Int)) (s : Shared) (Q : List Value → Shared → Prop), pairsOf es = some ps →
    (∀ vs h' tk, Grows s.heap h' → PairsAt s.heap.objs.size h' vs ps → Q vs { s with heap := h', toks := tk }) → wpAny (model prog w) A (spliced (backTo pos (starEach es env))) Q E s
  | [], ps, s, Q, he, h => by
    cases he
    exact args_nil (h [] s.heap s.toks (fun _ _ e => e) trivial)
  | e :: r, ps, s, Q, he, h => by
    unfold pairsOf at he
    split at he
    · rename_i p ps' h1 h2
      cases he
      have hst : starEach (e :: r) env = (false, eval e env) :: starEach r env := by
        unfold isPair at h1
        split at h1
        · rfl
        · cases h1
      refine args_cons (pair_eval h1 fun t u h' tk k ht => ?_) hst
      refine pairs_eval r ps' _ _ h2 fun vs h'' tk' k' hp => ?_
      exact h _ _ _ (fun b o e => k' _ _ (k _ _ e)) ⟨⟨_, t, u, rfl, Nat.le_refl _, ht.at fun o => k' _ o⟩, hp.low (by
        obtain ⟨o, ho, _⟩ := ht
        exact Nat.le_of_lt (Heap.lt_size ho))⟩
    · cases he
end
def hidP : List (Int × Int) := match (item 12).body with
  | .For _ (.List es _) _ _ _ :: _ => (pairsOf es).getD []
  | _ => []
def hid : List (Int × Int) → Int → Int
  | [], _ => 0
  | (f, m) :: r, c => if c < m then f + c else hid r (c - m)
def hidSum (ps : List (Int × Int)) : Int := (ps.map (·.2)).sum
set_option maxHeartbeats 400000 in
theorem hidden_call {w : World} {A : Around} {E : Value → Shared → Prop} {s : Shared} {Q : Value → Shared → Prop} {mg mb : Str → Option Value} {f : Addr} {c : Nat} {tc : Tok} 
   (G : GG w mg mb s.heap) (hf : mg "_law_hidden" = some (.ref f)) (hA : A.depth < recursionLimit) (hh : A.handled = none) (hc : (c : Int) < hidSum hidP)
   (hQ : ∀ t h' tk, Grows s.heap h' → Q (.int (hid hidP c) t) { s with heap := h', toks := tk }) :
   wpAny (model pw w) A (call (.ref f) [.int c tc]) Q E s := by
  refine enter (item 12) [("which", .int c tc)] G (by simp [defs]) hf hA (fun _ _ _ => rfl) rfl (fun cd h₁ L F => ?_) rfl rfl rfl rfl (by decide)
  conv => arg 3; arg 1; whnf
  have N : News s.heap L h₁ [] := News.nil
  have G0 : Kept (GG w mg mb s.heap) := ⟨G⟩
  walk1
  refine' For_turns (h₀ := s.heap) ?k1 ?_
  case k1 => exact F
  refine List_ ?_
  refine' pairs_eval _ hidP _ _ ?k1 ?k2
  case k1 => decide +kernel
  intro vs h' tk hk hps
  have hlen := hps.length
  refine wpAny_newObj_type ?_ (by show vs.toArray.size ≤ sizeLine; rw [List.size_toArray, hlen]; decide)
  dsimp only at hk hps ⊢
  have F1 := F.keeps hk
  have hL1 : L < h₁.objs.size := F.ns.lt
  generalize hH : h'.push { cls := .type "list", dict := none, data := .seq vs.toArray } = H
  have hl : H.IsList h'.objs.size vs.toArray := by rw [← hH]; exact ⟨_, Heap.get?_push_size _ rfl, rfl, 0, rfl⟩
  have hk2 : Grows h' H := by rw [← hH]; exact fun b o e => Heap.get?_push_of_some _ e
  have hsz : H.objs.size = h'.objs.size + 1 := by rw [← hH, Heap.size_push]
  have hps2 := hps.keeps hk2
  refine wpAny_pyIter_list hl ?_
  dsimp only
  generalize hK : H.push { cls := .type "list_iterator", data := .fields #[.ref h'.objs.size, .int 0 0] } = K
  have hk3 : Grows H K := by rw [← hK]; exact fun b o e => Heap.get?_push_of_some _ e
  have hit : K.IsListIter H.objs.size h'.objs.size 0 := by rw [← hK]; exact ⟨_, Heap.get?_push_size _ rfl, rfl, rfl⟩
  have hps3 := hps2.keeps hk3
  have F3 := (F1.keeps hk2).keeps hk3
  have hLlt : L < h'.objs.size := F1.ns.lt
  have hT : ∀ i, i < hidP.length → ∃ T t u, vs[i]? = some (.ref T) ∧ h₁.objs.size ≤ T ∧ K.IsTuple T #[.int (hidP.getD i (0, 0)).1 t, .int (hidP.getD i (0, 0)).2 u] ∧ T < H.objs.size := fun i hi => by
    obtain ⟨T, t, u, e1, e2, e3⟩ := hps2.get i hi
    refine ⟨T, t, u, e1, e2, e3.at fun o => hk3 _ o, ?_⟩
    obtain ⟨o, ho, _⟩ := e3
    exact Heap.lt_size ho
  let Ts : Nat → Addr := fun i => if hi : i < hidP.length then (hT i hi).choose else 0
  let ts : Nat → Tok := fun i => if hi : i < hidP.length then (hT i hi).choose_spec.choose else 0
  let us : Nat → Tok := fun i => if hi : i < hidP.length then (hT i hi).choose_spec.choose_spec.choose else 0
  have hTs : ∀ i, i < hidP.length → vs[i]? = some (.ref (Ts i)) ∧ h₁.objs.size ≤ Ts i ∧ K.IsTuple (Ts i) #[.int (hidP.getD i (0, 0)).1 (ts i), .int (hidP.getD i (0, 0)).2 (us i)] ∧ Ts i < H.objs.size := fun i hi => by
    simp only [Ts, ts, us, dif_pos hi]
    exact (hT i hi).choose_spec.choose_spec.choose_spec
  have hn : vs.toArray.size = hidP.length := by rw [List.size_toArray, hlen]
  have W := WalksU.listOfTuples (prog := pw) (w := w) (A := A.deeper (envOf (item 12).name (item 12).scope L f cd)) hh H.objs.size h'.objs.size (by rw [hsz]; exact Nat.ne_of_lt (Nat.lt_succ_self _)) vs.toArray Ts (fun i => #[.int (hidP.getD i (0, 0)).1 (ts i), .int (hidP.getD i (0, 0)).2 (us i)])
    (fun j hj => by simpa using (hTs j (by omega)).1) (fun j hj => Nat.ne_of_lt (hTs j (by omega)).2.2.2)
  refine' turns_pair (P2 := fun i v0 v1 => v0 = .int (hidP.getD i (0, 0)).1 (ts i) ∧ v1 = .int (hidP.getD i (0, 0)).2 (us i))
    (fun i m => ∃ (wi : Int) (t : Tok), m "which" = some (.int wi t) ∧ 0 ≤ wi ∧ wi < hidSum (hidP.drop i) ∧ hid (hidP.drop i) wi = hid hidP c) hh W.bound ?a1 rfl rfl rfl ?a2 ?a3 ?a4 ?a5 F3 News.nil ?a6 ?a7 ?a8
  case a1 => rintro i vals ⟨hi, rfl⟩; exact ⟨_, _, rfl, rfl, rfl⟩
  case a2 =>
    intro hm
    simp only [List.mem_cons, List.mem_map, List.mem_range] at hm
    rcases hm with e | e | ⟨i, hi, e⟩
    · have e' : L = H.objs.size := e
      exact Nat.lt_irrefl _ (e' ▸ (hsz ▸ Nat.lt_succ_of_lt hLlt : L < H.objs.size))
    · have e' : L = h'.objs.size := e
      exact Nat.lt_irrefl _ (e' ▸ hLlt)
    · have h1 := (hTs i (by omega)).2.1
      have e' : Ts i = L := e
      exact Nat.lt_irrefl _ (Nat.lt_of_lt_of_le hL1 (e' ▸ h1))
  case a3 =>
    intro b hb
    rw [List.mem_singleton.mp hb]
    exact next_is_new (F1.keeps hk2)
  case a4 => intro p hp; cases hp
  case a5 => exact ⟨hit, hl.at fun o => hk3 _ o, fun k hk => (hTs k (by omega)).2.2.1⟩
  case a6 => exact ⟨c, tc, rfl, by omega, by simpa using hc, by simp⟩
  case a7 =>
    rintro i v0 v1 m₁ h tk own hi ⟨rfl, rfl⟩ ⟨wi, t, hj, h0, h1, h2⟩ F₁ N₁
    have F₂ := Fr.over F₁ (x := "which") hj
    clear F₁
    have hi' : i < hidP.length := by omega
    have hd : hidP.drop i = hidP.getD i (0, 0) :: hidP.drop (i + 1) := by
      rw [List.drop_eq_getElem_cons hi', List.getD_eq_getElem?_getD, List.getElem?_eq_getElem hi']; rfl
    rw [hd] at h1 h2
    generalize hidP.getD i (0, 0) = p at *
    obtain ⟨p1, p2⟩ := p
    simp only [hid, hidSum, List.map_cons, List.sum_cons] at h1 h2
    walk
    · rw [if_pos (by assumption)] at h2
      show Q (.int (p1 + wi) _) _
      rw [h2]
      exact hQ _ _ _ F₂.keep
    · rw [if_neg (by omega)] at h2
      exact Turn.next (by assumption) (by assumption) ⟨_, _, rfl, by omega, by simp only [hidSum]; omega, h2⟩
  case a8 =>
    rintro m₁ h tk ⟨wi, t, hj, h0, h1, h2⟩ F₁ N₁
    exfalso
    rw [hn, List.drop_length] at h1
    simp [hidSum] at h1
    omega
end Mine
end
section
open PySem PySem.W PyProof.Rows PySem.Calls
set_option maxRecDepth 100000
namespace Mine
def signA (n : Nat) : Nat := if n % 4 = 0 then 97 + n / 4 % 26 else if n % 4 = 1 then 65 + n / 4 % 26 else if n % 4 = 2 then 119808 + n / 4 % 26 else 48 + n / 4 % 10
def signB (n : Nat) : Nat := if n % 4 = 3 then 48 + n / 4 % 10 else 97 + n / 4 % 26
section
variable {prog : Program} {w : World} {A : Around} {E : Value → Shared → Prop} {s : Shared} {Q : Value → Shared → Prop}
theorem chr_nat {x : Int} (c : Nat) {t : Tok} (hx : x = (c : Int)) (hc : c ≤ 1114111) (h : Q (.str ⟨#[c]⟩ s.toks) { s with toks := s.toks + 1 }) :
    wpAny (model prog w) A (call (.builtin "chr") [.int x t]) Q E s := by
  subst hx
  exact chr_of_range (by omega) (by omega) h
end
theorem sign_add {k b : Int} {k' b' n : Nat} (hk : k = (k' : Int)) (hb : b = (b' : Int)) (h0 : 0 < b') : k + ((n : Int).fdiv 4).fmod b = ((k' + n / 4 % b' : Nat) : Int) := by
  subst hk hb
  have e1 : (n : Int).fdiv 4 = ((n / 4 : Nat) : Int) := by
    rw [Int.fdiv_eq_ediv_of_nonneg _ (by decide)]; rfl
  rw [e1, Int.fmod_eq_emod_of_nonneg _ (by omega)]
  norm_cast
theorem mod4 (n : Nat) : (n : Int).fmod 4 = ((n % 4 : Nat) : Int) := by
  rw [Int.fmod_eq_emod_of_nonneg _ (by decide)]; rfl
local macro_rules | `(tactic| walk_at "to chr") => `(tactic| repeat ((fail_if_success (with_reducible show wpAny _ _ (call (Value.builtin "chr") _) _ _ _)); walk1))
set_option maxHeartbeats 4000000 in
theorem sign_call {w : World} {A : Around} {E : Value → Shared → Prop} {s : Shared} {Q : Value → Shared → Prop} {mg mb : Str → Option Value} {f : Addr} {n : Nat} {tc : Tok} 
   (G : GG w mg mb s.heap) (hf : mg "_law_sign" = some (.ref f)) (hA : A.depth < recursionLimit) (hh : A.handled = none)
   (hQ : ∀ T t u h' tk, Grows s.heap h' → s.heap.get? T = none → h'.IsTuple T #[.str ⟨#[signA n]⟩ t, .str ⟨#[signB n]⟩ u] → Q (.ref T) { s with heap := h', toks := tk }) :
   wpAny (model pw w) A (call (.ref f) [.int n tc]) Q E s := by
  refine enter (item 13) [("number", .int n tc)] G (by simp [defs]) hf hA (fun _ _ _ => rfl) rfl (fun cd h₁ L F => ?_) rfl rfl rfl rfl (by decide)
  conv => arg 3; arg 1; whnf
  have N : News s.heap L h₁ [] := News.nil
  have G0 : Kept (GG w mg mb s.heap) := ⟨G⟩
  walk_at "to chr"
  refine chr_nat (97 + n / 4 % 26) (sign_add rfl rfl (by decide)) (by omega) ?_
  walk
  · (rename Fr _ _ _ _ => F₁); (rename News _ _ _ _ => N₁)
    have q : n % 4 = 0 := by have := mod4 n; omega
    have e1 : signA n = 97 + n / 4 % 26 := by unfold signA; rw [if_pos q]
    have e2 : signB n = 97 + n / 4 % 26 := by unfold signB; rw [if_neg (by omega)]
    have hN := N₁ _ (.head _)
    exact hQ _ _ _ _ _ F₁.keep hN.2.2 (by rw [e1, e2]; exact ⟨_, hN.1, rfl, 0, rfl⟩)
  · refine chr_nat (65 + n / 4 % 26) (sign_add rfl rfl (by decide)) (by omega) ?_
    walk
    (rename Fr _ _ _ _ => F₁); (rename News _ _ _ _ => N₁)
    have q : n % 4 = 1 := by have := mod4 n; omega
    have e1 : signA n = 65 + n / 4 % 26 := by unfold signA; rw [if_neg (by omega), if_pos q]
    have e2 : signB n = 97 + n / 4 % 26 := by unfold signB; rw [if_neg (by omega)]
    have hN := N₁ _ (.head _)
    exact hQ _ _ _ _ _ F₁.keep hN.2.2 (by rw [e1, e2]; exact ⟨_, hN.1, rfl, 0, rfl⟩)
  · refine chr_nat (119808 + n / 4 % 26) (sign_add rfl rfl (by decide)) (by omega) ?_
    walk
    (rename Fr _ _ _ _ => F₁); (rename News _ _ _ _ => N₁)
    have q : n % 4 = 2 := by have := mod4 n; omega
    have e1 : signA n = 119808 + n / 4 % 26 := by unfold signA; rw [if_neg (by omega), if_neg (by omega), if_pos q]
    have e2 : signB n = 97 + n / 4 % 26 := by unfold signB; rw [if_neg (by omega)]
    have hN := N₁ _ (.head _)
    exact hQ _ _ _ _ _ F₁.keep hN.2.2 (by rw [e1, e2]; exact ⟨_, hN.1, rfl, 0, rfl⟩)
  · refine chr_nat (48 + n / 4 % 10) (sign_add rfl rfl (by decide)) (by omega) ?_
    walk_at "to chr"
    refine chr_nat (48 + n / 4 % 10) (sign_add rfl rfl (by decide)) (by omega) ?_
    walk
    (rename Fr _ _ _ _ => F₁); (rename News _ _ _ _ => N₁)
    have q : n % 4 = 3 := by have := mod4 n; omega
    have e1 : signA n = 48 + n / 4 % 10 := by unfold signA; rw [if_neg (by omega), if_neg (by omega), if_neg (by omega)]
    have e2 : signB n = 48 + n / 4 % 10 := by unfold signB; rw [if_pos q]
    have hN := N₁ _ (.head _)
    exact hQ _ _ _ _ _ F₁.keep hN.2.2 (by rw [e1, e2]; exact ⟨_, hN.1, rfl, 0, rfl⟩)
end Mine
end
section
open PySem PySem.W PyProof.Rows PySem.Calls
set_option maxRecDepth 100000
set_option linter.unusedVariables false
namespace Mine
section
variable {prog : Program} {w : World} {A : Around} {E : Value → Shared → Prop} {s : Shared} {env : Env} {h₀ : Heap} {x : Str} {body : List Stmt} {Q : Flow → Shared → Prop}
def TurnL {σ : Type} (h₀ : Heap) (L : Addr) (Led : σ → List (Addr × Obj)) (J : σ → (Str → Option Value) → Prop) (own : List (Addr × Obj)) (s₁ : Shared) (Qr : Value → Shared → Prop) (f : Flow) (s₂ : Shared) : Prop :=
  match f with
  | .ret v => Qr v s₂
  | .brk => False
  | _ => ∃ c' h' tk m', s₂ = { s₁ with heap := h', toks := tk } ∧ Fr h₀ L h' m' ∧ News h₀ L h' (Led c' ++ own) ∧ J c' m'
theorem TurnL.next {σ : Type} {Led : σ → List (Addr × Obj)} {L : Addr} {J : σ → (Str → Option Value) → Prop} {own : List (Addr × Obj)} {s₁ : Shared} {Qr : Value → Shared → Prop} {h' : Heap} {tk : Nat} {m' : Str → Option Value} (c' : σ)
    (F : Fr h₀ L h' m') (N : News h₀ L h' (Led c' ++ own)) (hj : J c' m') :
    TurnL h₀ L Led J own s₁ Qr .next { s₁ with heap := h', toks := tk } := ⟨c', h', tk, m', rfl, F, N, hj⟩
theorem loop_led {σ : Type} {I : Addr} {fp wr : List Addr} {n : Nat} {P : Nat → Value → Prop} {St : Nat → Heap → Prop} {m₀ : Str → Option Value} (Led : σ → List (Addr × Obj)) (J : Nat → σ → (Str → Option Value) → Prop) (c₀ : σ)
    (hadr : ∀ c, (Led c).map (·.1) = (Led c₀).map (·.1))
    (W : Walks prog w A I fp wr n P St) (hLf : env.locals ∉ fp) (hwr : ∀ b ∈ wr, h₀.get? b = none) (hfp : ∀ q ∈ Led c₀, q.1 ∉ fp) (hst : St 0 s.heap) (F : Fr h₀ env.locals s.heap m₀) (N : News h₀ env.locals s.heap (Led c₀)) (hj : J 0 c₀ m₀)
    (turn : ∀ i v c m₁ h tk own, i < n → P i v → J i c m₁ → OwnOff own ((Led c₀).map (·.1)) → Fr h₀ env.locals h (fun y => if y = x then some v else m₁ y) → News h₀ env.locals h (Led c ++ own) →
      wpAny (model prog w) A (execs body env) (TurnL h₀ env.locals Led (J (i + 1)) own { s with heap := h, toks := tk } fun v s' => Q (.ret v) s') E { s with heap := h, toks := tk })
    (done : ∀ c m₁ h tk, J n c m₁ → Fr h₀ env.locals h m₁ → News h₀ env.locals h (Led c) → Q .next { s with heap := h, toks := tk }) :
    LoopAtV prog w A h₀ env x body Q E (.ref I) s := by
  refine loop_invN (fun i m nx => ∃ c, nx = Led c ∧ J i c m) W hLf hwr (fun p hp hq => hfp p hp (W.sub _ hq)) hfp hst F N ⟨c₀, rfl, hj⟩ ?_ ?_
  · rintro i v m₁ news₁ h tk own hi hP _ hoff ⟨c, rfl, hJ⟩ F₁ N₁
    refine wpAny_mono (turn i v c m₁ h tk own hi hP hJ hoff F₁ N₁) (fun f s₂ p => ?_) fun _ _ e => e
    have fin : (∃ c' h' tk' m', s₂ = { ({ s with heap := h, toks := tk } : Shared) with heap := h', toks := tk' } ∧ Fr h₀ env.locals h' m' ∧ News h₀ env.locals h' (Led c' ++ own) ∧ J (i + 1) c' m') →
        InvEndN h₀ env.locals (fun m nx => ∃ c, nx = Led c ∧ J (i + 1) c m) own ((Led c₀).map (·.1)) { s with heap := h, toks := tk } s₂ := by
      rintro ⟨c', h', tk', m', rfl, F', N', hj'⟩
      exact InvEndN.intro F' N' ⟨c', rfl, hj'⟩ (hadr c') (fun p hp => List.mem_append_left _ hp) (fun p hp => List.mem_append_right _ hp)
    cases f with
    | ret v => exact p
    | brk => exact p.elim
    | next => exact fin p
    | cont => exact fin p
  · rintro m₁ news₁ h tk ⟨c, rfl, hJ⟩ F₁ N₁
    exact done c m₁ h tk hJ F₁ N₁
theorem iter_str_led {σ : Type} {t : Tok} {y : Str} {m₀ : Str → Option Value} (Led : σ → List (Addr × Obj)) (J : Nat → σ → (Str → Option Value) → Prop) (c₀ : σ)
    (hadr : ∀ c, (Led c).map (·.1) = (Led c₀).map (·.1)) (hh : A.handled = none) (F : Fr h₀ env.locals s.heap m₀) (N : News h₀ env.locals s.heap (Led c₀)) (hj : J 0 c₀ m₀)
    (turn : ∀ i (ch : Nat) u c m₁ h tk own, i < y.cps.size → y.cps[i]? = some ch → J i c m₁ → OwnOff own ((Led c₀).map (·.1)) → Fr h₀ env.locals h (fun z => if z = x then some (.str ⟨#[ch]⟩ u) else m₁ z) → News h₀ env.locals h (Led c ++ own) →
      wpAny (model prog w) A (execs body env) (TurnL h₀ env.locals Led (J (i + 1)) own { s with heap := h, toks := tk } fun v s' => Q (.ret v) s') E { s with heap := h, toks := tk })
    (done : ∀ c m₁ h tk, J y.cps.size c m₁ → Fr h₀ env.locals h m₁ → News h₀ env.locals h (Led c) → Q .next { s with heap := h, toks := tk }) :
    wpAny (model prog w) A (pyIter (.str y t)) (fun it s₂ => LoopAtV prog w A h₀ env x body Q E it s₂) E s := by
  refine wpAny_pyIter_str fun o St W st => ?_
  refine loop_led Led J c₀ hadr (W A hh) ?_ ?_ ?_ st (F.push _) (fun p hp => ⟨Heap.get?_push_of_some _ (N p hp).1, (N p hp).2⟩) hj ?_ ?_
  · intro hm
    exact absurd F.ns.lt ((List.mem_singleton.mp hm) ▸ Nat.lt_irrefl _)
  · intro b hb
    rw [List.mem_singleton.mp hb]
    exact next_is_new F
  · intro p hp hI
    exact absurd (Heap.lt_size (N p hp).1) ((List.mem_singleton.mp hI) ▸ Nat.lt_irrefl _)
  · rintro i v c m₁ h tk own hi ⟨ch, u, hc, rfl⟩ hJ hoff F₁ N₁
    exact turn i ch u c m₁ h tk own hi hc hJ hoff F₁ N₁
  · intro c m₁ h tk hJ F₁ N₁
    exact done c m₁ h tk hJ F₁ N₁
theorem gm_append {M : Model} {l : Addr} {its : Array Value} {n : Nat} {pl : Sem Bool} {Q : Value × List Value → Shared → Prop} (ho : s.heap.get? l = some (listOf its n)) (h : Q (.builtin "list.append", [.ref l]) s) :
    wpAny M A (getMethod (.ref l) "append" pl) Q E s :=
  getMethod_builtin ⟨_, ho, rfl⟩ F.plainAttrs_list F.slot_list_append F.type_list_append (fun a e => by cases e; exact ⟨_, ho, rfl⟩) h
end
/-- what the reader keeps: the octets, the figures -/
structure Rd where
  vo : Array Value
  vf : Array Value
  no : Nat
  nf : Nat
def readStep (mp : Nat → List Nat) (st : List Int × List Int) (c : Nat) : List Int × List Int :=
  if c9L.contains (c : Int) then (st.1, st.2 ++ [(c : Int) - 917504])
  else if c7L.contains (c : Int) then (st.1 ++ [-1], st.2)
  else if b1L.contains (c : Int) then st
  else (st.1 ++ (mp c).map fun (d : Nat) => (d : Int), st.2)
def readAll (mp : Nat → List Nat) (cs : List Nat) : List Int × List Int := cs.foldl (readStep mp) ([], [])
def Maps (mp : Nat → List Nat) (c : Nat) : Prop := Spec.lookup (.int (c : Int)) b3D = some (.str ⟨(mp c).toArray⟩) ∨ (Spec.lookup (.int (c : Int)) b3D = none ∧ Txt.lower ⟨#[c]⟩ = ⟨(mp c).toArray⟩)
theorem readAll_succ (mp : Nat → List Nat) (cs : List Nat) (i : Nat) (h : i < cs.length) : readAll mp (cs.take (i + 1)) = readStep mp (readAll mp (cs.take i)) cs[i] := by
  unfold readAll
  rw [List.take_add_one, List.foldl_append, List.getElem?_eq_getElem h]
  rfl
local macro_rules
  | `(tactic| walk_at "to newList") => `(tactic| repeat ((fail_if_success (with_reducible show wpAny _ _ (newList _) _ _ _)); walk1))
local macro_rules
  | `(tactic| walk_at "to call") => `(tactic| repeat ((fail_if_success (with_reducible show wpAny _ _ (call (.ref _) _) _ _ _)); walk1))
local macro_rules
  | `(tactic| walk_at "to For") => `(tactic| repeat ((fail_if_success (with_reducible show wpAny _ _ (exec (.For _ _ _ _ _) _) _ _ _)); walk1))
local macro_rules
  | `(tactic| walk_at "to iter") => `(tactic| repeat ((fail_if_success (with_reducible show wpAny _ _ (pyIter _) _ _ _)); walk1))
local macro_rules
  | `(tactic| walk_at "to gm") => `(tactic| repeat ((fail_if_success (with_reducible show wpAny _ _ (getMethod _ _ _) _ _ _)); walk1))
local macro_rules
  | `(tactic| walk_at "to append") => `(tactic| repeat ((fail_if_success (with_reducible show wpAny _ _ (call (.builtin "list.append") _) _ _ _)); walk1))
local macro_rules
  | `(tactic| walk_at "to own") => `(tactic| repeat ((fail_if_success (with_reducible show wpAny _ _ (eval (.Call (.Name _ _) _ _ _) _) _ _ _)); walk1))
def rdLed (lo lf : Addr) (c : Rd) : List (Addr × Obj) := [(lf, listOf c.vf c.nf), (lo, listOf c.vo c.no)]
set_option maxHeartbeats 4000000 in
theorem read_call {w : World} {A : Around} {E : Value → Shared → Prop} {s : Shared} {Q : Value → Shared → Prop} {mg mb : Str → Option Value} {f : Addr} {cs : List Nat} {tc : Tok} (mp : Nat → List Nat)
   (G : GG w mg mb s.heap) (hf : mg "_law_read" = some (.ref f)) (hA : A.depth + 1 < recursionLimit) (hh : A.handled = none)
   (hm : ∀ c ∈ cs, c9L.contains (c : Int) = false → c7L.contains (c : Int) = false → b1L.contains (c : Int) = false → Maps mp c) (hmp : ∀ c, (mp c).length ≤ 4) (hcs : cs.length ≤ 1000)
   (hQ : ∀ T lo lf vo vf h' tk, Grows s.heap h' → h'.IsTuple T #[.ref lo, .ref lf] → h'.IsList lo vo → h'.IsList lf vf → s.heap.get? lo = none → s.heap.get? lf = none → IntsAre vo.toList (readAll mp cs).1 → IntsAre vf.toList (readAll mp cs).2 → Q (.ref T) { s with heap := h', toks := tk }) :
   wpAny (model pw w) A (call (.ref f) [.str ⟨cs.toArray⟩ tc]) Q E s := by
  refine enter (item 17) [("text", .str ⟨cs.toArray⟩ tc)] G (by simp [defs]) hf (by omega) (fun _ _ _ => rfl) rfl (fun cd h₁ L F => ?_) rfl rfl rfl rfl (by decide)
  conv => arg 3; arg 1; whnf
  have N : News s.heap L h₁ [] := News.nil
  have G0 : Kept (GG w mg mb s.heap) := ⟨G⟩
  walk_at "to newList"
  refine newList_K F N (fun lo h' F1 N1 _ => ?_) (by decide)
  clear F N
  try dsimp only
  walk_at "to newList"
  (rename Fr _ _ _ _ => F₂); (rename News _ _ _ _ => N₂)
  refine newList_K F₂ N₂ (fun lf h' F1 N1 hlt => ?_) (by decide)
  have hne : lo ≠ lf := Nat.ne_of_lt (hlt _ (.head _))
  clear F₂ N₂
  try dsimp only
  walk_at "to For"
  (rename Fr _ _ _ _ => F₂); (rename News _ _ _ _ => N₂)
  refine For_invV s.heap rfl rfl ?_
  walk_at "to iter"
  refine iter_str_led (rdLed lo lf) (fun i c m => m "octets" = some (.ref lo) ∧ m "figures" = some (.ref lf) ∧ IntsAre c.vo.toList (readAll mp (cs.take i)).1 ∧ IntsAre c.vf.toList (readAll mp (cs.take i)).2 ∧ c.vo.size ≤ 4 * i ∧ c.vf.size ≤ i) ⟨#[], #[], 0, 0⟩ (fun _ => rfl) hh F₂ N₂ ⟨rfl, rfl, .nil, .nil, by decide, by decide⟩ ?_ ?_
  · rintro i ch u c m₁ h tk own hi hch ⟨ho, hfi, Io, If, so, sf⟩ hoff F₁ N₁
    have hi' : i < cs.length := by simpa using hi
    obtain rfl : cs[i] = ch := by simpa [hi'] using hch
    have F₃ := Fr.over (Fr.over F₁ (x := "octets") ho) (x := "figures") hfi
    clear F₁ F₂
    have hrs := readAll_succ mp cs i hi'
    have hin : cs[i] ∈ cs := List.getElem_mem hi'
    generalize cs[i] = ch at *
    have hoff' : ∀ p ∈ own, p.1 ≠ lf ∧ p.1 ≠ lo := fun p hp => ⟨hoff p hp lf (.head _), hoff p hp lo (.tail _ (.head _))⟩
    walk_at "to own"
    refine own_call (item 10) F₃ G0.out (by simp [defs]) (fun f o hf ho => ?_) rfl rfl rfl (by decide)
    walk_at "to call"
    try dsimp only
    refine in_c9_call (G0.out.keeps F₃.keep) hf (by rw [depth_deeper]; omega) fun h' tk hk => ?_
    have F₄ := F₃.keeps hk
    have N₄ : News s.heap _ h' ((lf, listOf c.vf c.nf) :: (lo, listOf c.vo c.no) :: own) := N₁.keeps hk
    clear F₃ N₁ N₂
    try dsimp only
    cases hc9 : c9L.contains (ch : Int)
    · walk_at "to own"
      refine own_call (item 8) F₄ G0.out (by simp [defs]) (fun f o hf ho => ?_) rfl rfl rfl (by decide)
      walk_at "to call"
      try dsimp only
      refine in_c7_call (G0.out.keeps F₄.keep) hf (by rw [depth_deeper]; omega) fun h' tk hk => ?_
      have F₅ := F₄.keeps hk
      have N₅ := N₄.keeps hk
      clear F₄ N₄
      try dsimp only
      cases hc7 : c7L.contains (ch : Int)
      · walk_at "to own"
        refine own_call (item 4) F₅ G0.out (by simp [defs]) (fun f o hf ho => ?_) rfl rfl rfl (by decide)
        walk_at "to call"
        try dsimp only
        refine in_b1_call (G0.out.keeps F₅.keep) hf (by rw [depth_deeper]; omega) fun h' tk hk => ?_
        have F₆ := F₅.keeps hk
        have N₆ := N₅.keeps hk
        clear F₅ N₅
        try dsimp only
        cases hb1 : b1L.contains (ch : Int)
        · have hmc := hm ch hin hc9 hc7 hb1
          walk_at "to For"
          refine For_invV s.heap rfl rfl ?_
          walk_at "to own"
          refine own_call (item 6) F₆ G0.out (by simp [defs]) (fun f o hf ho => ?_) rfl rfl rfl (by decide)
          walk_at "to call"
          try dsimp only
          refine b3_call (G0.out.keeps F₆.keep) hf (by rw [depth_deeper]; omega) hmc fun t h' tk hk => ?_
          have F₇ := F₆.keeps hk
          have N₇ := N₆.keeps hk
          clear F₆ N₆
          try dsimp only
          refine iter_str_led (fun c' => rdLed lo lf c' ++ own) (fun k c' m => m "octets" = some (.ref lo) ∧ m "figures" = some (.ref lf) ∧ IntsAre c'.vo.toList ((readAll mp (cs.take i)).1 ++ ((mp ch).take k).map fun (d : Nat) => (d : Int)) ∧ IntsAre c'.vf.toList (readAll mp (cs.take i)).2 ∧ c'.vo.size ≤ 4 * i + k ∧ c'.vf.size ≤ i) c (fun _ => by simp [rdLed]) hh F₇ N₇ ⟨rfl, rfl, by simpa using Io, If, so, sf⟩ ?_ ?_
          · rintro k dh u' c' m₂ h tk own' hk hdh ⟨ho, hfi, Io', If', so', sf'⟩ hoff₂ F₁ N₁
            have hk' : k < (mp ch).length := by simpa using hk
            obtain rfl : (mp ch)[k] = dh := by simpa [hk'] using hdh
            have F₃ := Fr.over (Fr.over F₁ (x := "octets") ho) (x := "figures") hfi
            have N₃ : News s.heap L h ((lf, listOf c'.vf c'.nf) :: (lo, listOf c'.vo c'.no) :: (own ++ own')) := by
              have q := N₁
              rw [List.append_assoc] at q
              exact q
            clear F₁ N₁ F₇ N₇
            have hkk : k < 4 := Nat.lt_of_lt_of_le hk' (hmp ch)
            walk_at "to gm"
            refine gm_append (N₃ _ (.tail _ (.head _))).1 ?_
            walk_at "to append"
            refine append_K F₃ N₃ (.tail hne.symm (.head (fun p hp => ?_))) (fun h' F₆ N₆ => ?_) (Nat.le_trans so' (Nat.le_trans (by omega : 4 * i + k ≤ 5000) (by decide)))
            · rcases List.mem_append.mp hp with hp | hp
              · exact (hoff' p hp).2
              · exact hoff₂ p hp lo (.tail _ (.head _))
            clear F₃ N₃
            walk
            refine TurnL.next ⟨c'.vo.push _, c'.vf, c'.no + 1, c'.nf⟩ F₆ (by rw [List.append_assoc]; exact N₆) ⟨rfl, rfl, ?_, If', ?_, sf'⟩
            · rw [List.take_add_one, List.getElem?_eq_getElem hk', List.map_append, ← List.append_assoc]
              exact intsAre_push Io'
            · show (Array.push _ _).size ≤ _
              rw [Array.size_push]; omega
          · rintro c' m₂ h tk ⟨ho, hfi, Io', If', so', sf'⟩ F₁ N₁
            have F₃ := Fr.over (Fr.over F₁ (x := "octets") ho) (x := "figures") hfi
            clear F₁ F₇ N₇
            have e : (mp ch).take (⟨(mp ch).toArray⟩ : Str).cps.size = mp ch := List.take_length
            rw [e] at Io'
            have so2 : c'.vo.size ≤ 4 * i + (mp ch).length := so'
            have := hmp ch
            walk
            refine TurnL.next c' (by assumption) (by assumption) ⟨rfl, rfl, ?_, ?_, ?_, ?_⟩
            · rw [hrs, readStep, if_neg (by rw [hc9]; decide), if_neg (by rw [hc7]; decide), if_neg (by rw [hb1]; decide)]
              exact Io'
            · rw [hrs, readStep, if_neg (by rw [hc9]; decide), if_neg (by rw [hc7]; decide), if_neg (by rw [hb1]; decide)]
              exact If'
            · omega
            · omega
        · walk
          refine TurnL.next c (by assumption) (by assumption) ⟨rfl, rfl, ?_, ?_, ?_, ?_⟩
          · rw [hrs, readStep, if_neg (by rw [hc9]; decide), if_neg (by rw [hc7]; decide), if_pos hb1]
            exact Io
          · rw [hrs, readStep, if_neg (by rw [hc9]; decide), if_neg (by rw [hc7]; decide), if_pos hb1]
            exact If
          · exact Nat.le_trans so (by omega)
          · exact Nat.le_trans sf (by omega)
      · walk_at "to gm"
        refine gm_append (N₅ _ (.tail _ (.head _))).1 ?_
        walk_at "to append"
        refine append_K F₅ N₅ (.tail hne.symm (.head (fun p hp => (hoff' p hp).2))) (fun h' F₆ N₆ => ?_) (Nat.le_trans so (Nat.le_trans (by omega : 4 * i ≤ 4000) (by decide)))
        clear F₅ N₅
        walk
        refine TurnL.next ⟨c.vo.push _, c.vf, c.no + 1, c.nf⟩ F₆ N₆ ⟨rfl, rfl, ?_, ?_, ?_, ?_⟩
        · rw [hrs, readStep, if_neg (by rw [hc9]; decide), if_pos hc7]
          exact intsAre_push Io
        · rw [hrs, readStep, if_neg (by rw [hc9]; decide), if_pos hc7]
          exact If
        · show (Array.push _ _).size ≤ _
          rw [Array.size_push]; omega
        · exact Nat.le_succ_of_le sf
    · walk_at "to gm"
      refine gm_append (N₄ _ (.head _)).1 ?_
      walk_at "to append"
      refine append_K F₄ N₄ (.head ?_) (fun h' F₆ N₆ => ?_) (Nat.le_trans sf (Nat.le_trans (by omega : i ≤ 1000) (by decide)))
      · intro p hp
        rcases List.mem_cons.mp hp with rfl | hp
        · exact hne
        · exact (hoff' p hp).1
      clear F₄ N₄
      walk
      refine TurnL.next ⟨c.vo, c.vf.push _, c.no, c.nf + 1⟩ F₆ N₆ ⟨rfl, rfl, ?_, ?_, ?_, ?_⟩
      · rw [hrs, readStep, if_pos hc9]
        exact Io
      · rw [hrs, readStep, if_pos hc9]
        exact intsAre_push If
      · exact Nat.le_trans so (by omega)
      · show (Array.push _ _).size ≤ _
        rw [Array.size_push]; omega
  · rintro c m₁ h tk ⟨ho, hfi, Io, If, so, sf⟩ F₁ N₁
    have F₃ := Fr.over (Fr.over F₁ (x := "octets") ho) (x := "figures") hfi
    clear F₁ F₂
    have N₃ : News s.heap _ h [(lf, listOf c.vf c.nf), (lo, listOf c.vo c.no)] := N₁
    clear N₁ N₂
    have e : cs.take (⟨cs.toArray⟩ : Str).cps.size = cs := List.take_length
    rw [e] at Io If
    walk
    (rename Fr _ _ _ _ => F₄); (rename News _ _ _ _ => N₄)
    exact hQ _ lo lf c.vo c.vf _ _ F₄.keep ⟨_, (N₄ _ (.head _)).1, rfl, _, rfl⟩ ⟨_, (N₄ _ (.tail _ (.tail _ (.head _)))).1, rfl, _, rfl⟩ ⟨_, (N₄ _ (.tail _ (.head _))).1, rfl, _, rfl⟩ (N₄ _ (.tail _ (.tail _ (.head _)))).2.2 (N₄ _ (.tail _ (.head _))).2.2 Io If
end Mine
end
section
open PySem PySem.W PyProof.Rows PySem.Calls
set_option maxRecDepth 100000
set_option linter.unusedVariables false
namespace Mine
theorem own_callE {w : World} {A : Around} {E : Value → Shared → Prop} {s : Shared} {Q : Value → Shared → Prop} {mg mb : Str → Option Value} {h₀ : Heap} {L : Addr} {m : Str → Option Value} {env : Env} {p pos : Pos} {e : Expr} {rest : List Expr}
    (d : DefItem) (F : Fr h₀ L s.heap m) (G : GG w mg mb h₀) (hd : d ∈ defs)
    (h : ∀ f o, mg d.name = some (.ref f) → h₀.get? f = some o → wpAny (model pw w) A (spliced (backTo pos (starEach (e :: rest) env))) (fun vs s₁ => s₁.heap.get? f = some o ∧ wpAny (model pw w) A (call (.ref f) vs) Q E s₁) E s)
    (hk : env.scope.kind = .function) (hx : env.kindOf d.name = some .globalImplicit) (hg : env.globals = mainGlobals) (hnd : d.params.defaults = []) (hdb : (d.name == ("__debug__" : Str)) = false)
    (he : starEach (e :: rest) env = (false, eval e env) :: starEach rest env := by rfl)
    (hc : eval (.Call (.Name d.name p) (e :: rest) [] pos) env = (do callWith pos (← eval (.Name d.name p) env) [] (backTo pos (starEach (e :: rest) env)) (backToKw pos (keywordEach [] env))) := by rfl) :
    wpAny (model pw w) A (eval (.Call (.Name d.name p) (e :: rest) [] pos) env) Q E s := by
  refine Call_ ?_ hc
  obtain ⟨f, c', o, pm, doc, _, _, h3, h4, h5, h6⟩ := (G.made d hd).plain hnd
  refine Name_function_global hk hx (loadGlobal_global (env := env) (by rw [hg]; exact (G.keeps F.keep).g) h3 ?_) hdb
  exact callWith_def h5 (h f o h3 h4) he
section
variable {prog : Program} {w : World} {A : Around} {h₀ : Heap} {L : Addr} {m : Str → Option Value} {env : Env} {elt : Expr} {x : Str} {scope : Scope} {cl : List (Str × Addr)} {s : Shared} {S : List (Addr × Obj) → Prop} {P : Nat → Value → Prop} {Fin : List Value → List (Addr × Obj) → Prop} {news : List (Addr × Obj)}
theorem comp_inv {n : Nat} (R : Nat → List Value → List (Addr × Obj) → Prop) (h0 : R 0 [] news)
    (turn : ∀ i ys nw v I oI C oC D m₂ h tk (E' : Value → Shared → Prop), i < n → R i ys nw → P i v → LCg.NsObj oC m₂ → m₂ x = some v → Fr h₀ L h m → News h₀ L h ((I, oI) :: (C, oC) :: (D, LCg.lst ys) :: nw) → LCg.Off3 I C D nw → ((@Ne Nat I C) ∧ (@Ne Nat I D) ∧ (@Ne Nat C D)) →
      wpAny (model prog w) A (eval elt (compEnvC scope cl C env)) (LCg.CompEnd h₀ L m { s with heap := h, toks := tk } I oI C oC D (LCg.lst ys) S (fun y nw' => R (i + 1) (ys ++ [y]) nw')) E' { s with heap := h, toks := tk })
    (fin : ∀ ys nw, R n ys nw → Fin ys nw) : LCg.CompRest prog w A h₀ L m env elt x scope cl s S P Fin n 0 [] news := by
  have key : ∀ (j i : Nat) (ys : List Value) (nw : List (Addr × Obj)), i + j = n → R i ys nw → LCg.CompRest prog w A h₀ L m env elt x scope cl s S P Fin j i ys nw := by
    intro j
    induction j with
    | zero =>
      intro i ys nw hi hr
      obtain rfl : i = n := hi
      exact LCg.CompRest.zero (fin ys nw hr)
    | succ j ih =>
      intro i ys nw hi hr
      refine LCg.CompRest.succ ?_
      intro v I oI C oC D m₂ h tk E' hv hC hx F N off ne
      refine wpAny_mono (turn i ys nw v I oI C oC D m₂ h tk E' (by omega) hr hv hC hx F N off ne) (fun y s₂ hq => ?_) fun _ _ e => e
      obtain ⟨h', tk', nw', e, F', N', off', hS, hr'⟩ := hq
      exact ⟨h', tk', nw', e, F', N', off', hS, ih (i + 1) _ nw' (by omega) hr'⟩
  exact key n 0 [] news (by omega) h0
/-- nothing new is kept by an element -/
theorem comp_end {I C D : Addr} {oI oC oD : Obj} {rest : Value → List (Addr × Obj) → Prop} {y : Value} {s₁ : Shared} {h' : Heap} {tk : Nat} {nw : List (Addr × Obj)}
    (F : Fr h₀ L h' m) (N : News h₀ L h' ((I, oI) :: (C, oC) :: (D, oD) :: nw)) (off : LCg.Off3 I C D nw) (hS : S nw) (r : rest y nw) :
    LCg.CompEnd h₀ L m s₁ I oI C oC D oD S rest y { s₁ with heap := h', toks := tk } := ⟨h', tk, nw, rfl, F, N, off, hS, r⟩
theorem nm_built {M : Model} {E : Value → Shared → Prop} {mg mb : Str → Option Value} {Q : Value → Shared → Prop} {pos : Pos} {v : Value} {w : World} (F : Fr h₀ L s.heap m) (G : GG w mg mb h₀) (hv : bootBuiltins x = some v) (h : Q v s)
    (hfree : x ∉ names := by decide) (hboot : x ∉ bootMainNames := by decide) (hn : x ≠ "__name__" := by decide)
    (hk : env.scope.kind = .function := by rfl) (hx : env.kindOf x = some .globalImplicit := by rfl) (hg : env.globals = mainGlobals := by rfl) (hb : env.builtins = builtinsNs := by rfl)
    (hd : (x == ("__debug__" : Str)) = false := by decide) : wpAny M A (eval (.Name x pos) env) Q E s :=
  Name_function_global hk hx (loadGlobal_builtin (env := env) (by rw [hg]; exact (G.keeps F.keep).g) ((G.keeps F.keep).free x hfree hboot) (by rw [hb]; exact (G.keeps F.keep).b) (((G.keeps F.keep).builtins x hn).trans hv) h) hd
end
local macro_rules
  | `(tactic| walk_at "comp name") => `(tactic| (first
    | refine LCgL.ld_own (by assumption) (by news_mem) (by assumption) (by assumption) ?_
    | refine nm_built (by assumption) (Kept.out (by assumption)) (by boot_fast) ?_))
/-- walks up to the next name of a comprehension's own block -/
local macro_rules
  | `(tactic| walk_at "to comp name") => `(tactic| repeat ((fail_if_success (with_reducible show wpAny _ _ (eval (Expr.Name _ _) (compEnvC _ _ _ _)) _ _ _)); walk1))
def lawE (L f : Addr) (cd : Value) : Env := envOfC (item 19).name (item 19).scope L f cd
def Post (h₀ : Heap) (s : Shared) (RR : Flow → Shared → Prop) : Prop := ∀ h' tk, Grows h₀ h' → RR (.ret (.bool true)) { s with heap := h', toks := tk }
abbrev Part (w : World) (A : Around) (k : Nat) (L f : Addr) (cd : Value) (RR : Flow → Shared → Prop) (s : Shared) : Prop :=
  wpAny (model pw w) A (execs ((item 19).body.drop k) (envOfC (item 19).name (item 19).scope L f cd)) RR (fun _ _ => False) s
def nums (xs : List Int) : List Nat := (xs.take 20).map fun n => (n.fmod 1000000).toNat
theorem nums_cast (xs : List Int) : ((xs.take 20).map fun n => n.fmod 1000000) = (nums xs).map fun (n : Nat) => (n : Int) := by
  unfold nums
  rw [List.map_map]
  refine List.map_congr_left fun n _ => ?_
  have : 0 ≤ n.fmod 1000000 := Int.fmod_nonneg_of_pos n (by decide)
  show _ = (((n.fmod 1000000).toNat : Nat) : Int)
  omega
theorem nums_lt (xs : List Int) : ∀ n ∈ nums xs, n < 1000000 := by
  intro n hn
  obtain ⟨k, _, rfl⟩ := List.mem_map.mp hn
  have := Int.fmod_lt_of_pos k (b := 1000000) (by decide)
  show (k.fmod 1000000).toNat < 1000000
  omega
theorem nums_len (xs : List Int) : (nums xs).length ≤ 20 := by
  unfold nums
  rw [List.length_map, List.length_take]; exact Nat.min_le_left _ _
def keys (xs : List Int) : List Nat := [60, 41, 15, 19] ++ nums xs
def PieceO (k : Nat) (o : Obj) : Prop := o.cls = .type "tuple" ∧ ∃ t u n, o.data = .seq #[.str ⟨#[signA k]⟩ t, .str ⟨#[signB k]⟩ u] n
def Pcs (ks : List Nat) (vs : List Value) (tl : List (Addr × Obj)) : Prop := vs.length = ks.length ∧ (∀ (j k : Nat), ks[j]? = some k → ∃ (T : Addr) (o : Obj), vs[j]? = some (Value.ref T) ∧ (T, o) ∈ tl ∧ PieceO k o) ∧ ∀ p ∈ tl, ∀ v, p.2.data ≠ .cell v
theorem Pcs.nil : Pcs [] [] [] := ⟨rfl, fun _ _ h => by simp at h, fun _ h => nomatch h⟩
theorem Pcs.snoc {ks : List Nat} {vs : List Value} {tl : List (Addr × Obj)} {k : Nat} {T : Addr} {o : Obj} (P : Pcs ks vs tl) (h : PieceO k o) : Pcs (ks ++ [k]) (vs ++ [Value.ref T]) ((T, o) :: tl) := by
  refine ⟨by simp [P.1], fun j k' hj => ?_, fun p hp v => ?_⟩
  · by_cases hlt : j < ks.length
    · rw [List.getElem?_append_left hlt] at hj
      obtain ⟨T', o', h1, h2, h3⟩ := P.2.1 j k' hj
      exact ⟨T', o', by rw [List.getElem?_append_left (by rw [P.1]; exact hlt)]; exact h1, .tail _ h2, h3⟩
    · have hj' : j = ks.length := by
        have : j < (ks ++ [k]).length := (List.getElem?_eq_some_iff.mp hj).1
        simp at this; omega
      subst hj'
      rw [List.getElem?_append_right (Nat.le_refl _)] at hj
      simp at hj
      subst hj
      exact ⟨T, o, by rw [← P.1, List.getElem?_append_right (Nat.le_refl _)]; simp, .head _, h⟩
  · rcases List.mem_cons.mp hp with rfl | hp
    · obtain ⟨t, u, n, e⟩ := h.2
      intro e'
      have e'' : o.data = _ := e'
      rw [e] at e''; cases e''
    · exact P.2.2 p hp v
set_option maxHeartbeats 4000000 in
theorem part0 {w : World} {A : Around} {s : Shared} {mg mb : Str → Option Value} {h₀ : Heap} {L f : Addr} {cd : Value} {RR : Flow → Shared → Prop} {m : Str → Option Value} {o₁ o₂ : Obj} {l : Addr} {vs : List Value} {xs : List Int}
    (G : GG w mg mb h₀) (hh : A.handled = none) (F : Fr h₀ L s.heap m) (hs : m "script" = some (.ref l)) (hl : h₀.IsList l vs.toArray) (hx : IntsAre vs xs) (h63 : xs.length ≤ 63)
    (N : News h₀ L s.heap [(L + 2, o₁), (L + 1, o₂)])
    (next : ∀ ln us m' h' tk, Fr h₀ L h' m' → m' "numbers" = some (.ref ln) → IntsAre us ((nums xs).map fun (n : Nat) => (n : Int)) → News h₀ L h' [(ln, LCg.lst us), (L + 2, o₁), (L + 1, o₂)] → Part w A 1 L f cd RR { s with heap := h', toks := tk }) : Part w A 0 L f cd RR s := by
  have F₁ := Fr.over F (x := "script") hs
  clear F
  unfold Part
  conv => arg 3; arg 1; whnf
  refine wpAny_execs_cons (LCg.Assign_ListComp_U (F₀ := F₁) rfl (by with_unfolding_all rfl) rfl (by decide) rfl (by decide) rfl rfl rfl ?_)
  have G0 : Kept (GG w mg mb h₀) := ⟨G⟩
  iterate 8 walk1
  (rename Fr _ _ _ _ => F₂); (rename News _ _ _ _ => N₂)
  have hs20 := kmk_upto (y := 20) hx (by decide)
  have hsz := intsAre_size hs20
  have hsz20 : (slicePick vs.toArray none (some 20) none).size ≤ 20 := by
    rw [hsz, List.length_take]; exact Nat.min_le_left _ _
  refine LCg.CompSrc.ledger hh F₂ N₂ (.head _) (Nat.le_trans hsz20 (by decide)) fun g => ?_
  refine comp_inv (fun i ys nw => nw = _ ∧ IntsAre ys (((xs.take 20).take i).map fun n => n.fmod 1000000)) ⟨rfl, .nil⟩ ?_ ?_
  · rintro i ys nw v I oI C oC D m₂ h tk E' hi ⟨rfl, hys⟩ hv hC hxv F₃ N₃ off ne
    obtain ⟨k, t, rfl, hk⟩ := IntsAre.at hs20 i v (by simpa using hv)
    walk_at "to comp name"
    walk_at "comp name"
    walk
    refine comp_end (by assumption) (by assumption) off (.inr ⟨_, .head _, rfl, _, rfl⟩) ⟨rfl, ?_⟩
    rw [List.take_add_one, show (xs.take 20)[i]? = some k from hk, List.map_append]
    exact intsAre_append hys (.cons _ _ .nil)
  · rintro ys nw ⟨rfl, hys⟩
    intro D h tk F₃ N₃ o1
    rw [hsz, show List.take (Int.toNat 20) xs = xs.take 20 from rfl, List.take_length, nums_cast] at hys
    refine next D ys _ h tk F₃ rfl hys fun p hp => N₃ p ?_
    rcases List.mem_cons.mp hp with rfl | hp
    · exact .head _
    · exact .tail _ (.tail _ hp)
theorem news_new {h₀ h h' : Heap} {L T : Addr} {m : Str → Option Value} {o : Obj} {nw : List (Addr × Obj)} (F : Fr h₀ L h m) (N : News h₀ L h nw) (hk : Grows h h') (hT : h.get? T = none) (ho : h'.get? T = some o) : News h₀ L h' ((T, o) :: nw) := by
  intro p hp
  rcases List.mem_cons.mp hp with rfl | hp
  · refine ⟨ho, fun e => ?_, ?_⟩
    · have e' : T = L := e
      subst e'
      obtain ⟨o', _, _, x, _⟩ := F.ns
      rw [hT] at x; cases x
    · cases e : h₀.get? T with
      | none => rfl
      | some o' => have := F.keep _ _ e; rw [hT] at this; cases this
  · exact ⟨hk _ _ (N p hp).1, (N p hp).2⟩
theorem new_ne {h₀ h : Heap} {L T : Addr} {nw : List (Addr × Obj)} (N : News h₀ L h nw) (hT : h.get? T = none) : ∀ p ∈ nw, T ≠ p.1 := by
  intro p hp e
  have := (N p hp).1
  rw [← e, hT] at this; cases this
end Mine
end
section
open PySem PySem.W PyProof.Rows PySem.Calls
set_option maxRecDepth 100000
set_option linter.unusedVariables false
namespace Mine
local macro_rules
  | `(tactic| walk_at "comp name") => `(tactic| (first
    | refine LCgL.ld_own (by assumption) (by news_mem) (by assumption) (by assumption) ?_
    | refine nm_built (by assumption) (Kept.out (by assumption)) (by boot_fast) ?_))
local macro_rules
  | `(tactic| walk_at "to comp name") => `(tactic| repeat ((fail_if_success (with_reducible show wpAny _ _ (eval (Expr.Name _ _) (compEnvC _ _ _ _)) _ _ _)); walk1))
local macro_rules
  | `(tactic| walk_at "to own") => `(tactic| repeat ((fail_if_success (with_reducible show wpAny _ _ (eval (.Call (.Name _ _) _ _ _) _) _ _ _)); walk1))
local macro_rules
  | `(tactic| walk_at "to call") => `(tactic| repeat ((fail_if_success (with_reducible show wpAny _ _ (call (.ref _) _) _ _ _)); walk1))
set_option maxHeartbeats 4000000 in
theorem part1 {w : World} {A : Around} {s : Shared} {mg mb : Str → Option Value} {h₀ : Heap} {L f : Addr} {cd : Value} {RR : Flow → Shared → Prop} {m : Str → Option Value} {o₁ o₂ : Obj} {ln : Addr} {us : List Value} {xs : List Int}
    (G : GG w mg mb h₀) (hh : A.handled = none) (hA : A.depth + 1 < recursionLimit) (F : Fr h₀ L s.heap m) (hs : m "numbers" = some (.ref ln)) (hx : IntsAre us ((nums xs).map fun (n : Nat) => (n : Int)))
    (N : News h₀ L s.heap [(ln, LCg.lst us), (L + 2, o₁), (L + 1, o₂)])
    (next : ∀ lp ys tl m' h' tk, Fr h₀ L h' m' → m' "numbers" = some (.ref ln) → m' "pieces" = some (.ref lp) → Pcs (keys xs) ys tl → News h₀ L h' ((lp, LCg.lst ys) :: (ln, LCg.lst us) :: (L + 2, o₁) :: (L + 1, o₂) :: tl) → Part w A 2 L f cd RR { s with heap := h', toks := tk }) : Part w A 1 L f cd RR s := by
  have F₁ := Fr.over F (x := "numbers") hs
  clear F
  unfold Part
  conv => arg 3; arg 1; whnf
  have hlen := hx.length
  have hl20 := nums_len xs
  have hln : us.length ≤ 20 := by rw [hlen, List.length_map]; exact hl20
  have hxx : (List.map (fun (n : Nat) => (n : Int)) (nums xs)).length ≤ 20 := by rw [List.length_map]; exact hl20
  refine wpAny_execs_cons (LCg.Assign_ListComp_U (F₀ := F₁) rfl (by with_unfolding_all rfl) rfl (by decide) rfl (by decide) rfl rfl rfl ?_)
  have G0 : Kept (GG w mg mb h₀) := ⟨G⟩
  iterate 14 walk1
  (rename Fr _ _ _ _ => F₂); (rename News _ _ _ _ => N₂)
  have hks : IntsAre ([Value.int 60 s.toks, Value.int 41 (s.toks + 1), Value.int 15 (s.toks + 1 + 1), Value.int 19 (s.toks + 1 + 1 + 1)] ++ us) ((keys xs).map fun (n : Nat) => (n : Int)) :=
    .cons 60 _ (.cons 41 _ (.cons 15 _ (.cons 19 _ hx)))
  generalize [Value.int 60 s.toks, Value.int 41 (s.toks + 1), Value.int 15 (s.toks + 1 + 1), Value.int 19 (s.toks + 1 + 1 + 1)] ++ us = ws at hks N₂
  have hwl : ws.length = (keys xs).length := by rw [hks.length, List.length_map]
  have hkl : (keys xs).length ≤ 24 := by
    show ([60, 41, 15, 19] ++ nums xs).length ≤ 24
    rw [List.length_append]; show 4 + _ ≤ 24; omega
  refine LCg.CompSrc.ledger (its := ws.toArray) hh F₂ N₂ (.head _) (by rw [List.size_toArray]; exact Nat.le_trans (Nat.le_trans (Nat.le_of_eq hwl) hkl) (by decide)) fun g => ?_
  refine comp_inv (fun i ys nw => ∃ tl, nw = tl ++ _ ∧ Pcs ((keys xs).take i) ys tl) ⟨[], rfl, Pcs.nil⟩ ?_ ?_
  · rintro i ys nw v I oI C oC D m₂ h tk E' hi ⟨tl, rfl, hys⟩ hv hC hxv F₃ N₃ off ne
    obtain ⟨k, t, rfl, hk⟩ := IntsAre.at hks i v (by simpa using hv)
    rw [List.getElem?_map] at hk
    obtain ⟨k', hk', rfl⟩ := Option.map_eq_some_iff.mp hk
    refine own_callE (item 13) F₃ G0.out (by simp [defs]) (fun f o hf ho => ?_) rfl rfl rfl rfl (by decide)
    walk_at "to comp name"
    walk_at "comp name"
    walk_at "to call"
    refine sign_call (G0.out.keeps F₃.keep) hf (by omega) hh fun T t u h' tk hk hT hTup => ?_
    obtain ⟨oT, hoT, hcl, nT, hdT⟩ := hTup
    have N₄ := news_new F₃ N₃ hk hT hoT
    have hne := new_ne N₃ hT
    refine ⟨h', tk, (T, oT) :: (tl ++ _), rfl, F₃.keeps hk, fun p hp => N₄ p ?_, ⟨⟨hne _ (.head _), hne _ (.tail _ (.head _)), hne _ (.tail _ (.tail _ (.head _)))⟩, off⟩, .inr ⟨_, List.mem_cons_of_mem _ (List.mem_append_right _ (.head _)), rfl, _, rfl⟩, (T, oT) :: tl, rfl, ?_⟩
    · simp only [List.mem_cons] at hp ⊢
      rcases hp with h | h | h | h | h
      · exact .inr (.inl h)
      · exact .inr (.inr (.inl h))
      · exact .inr (.inr (.inr (.inl h)))
      · exact .inl h
      · exact .inr (.inr (.inr (.inr h)))
    · rw [List.take_add_one, hk']
      exact hys.snoc ⟨hcl, t, u, nT, hdT⟩
  · rintro ys nw ⟨tl, rfl, hys⟩
    intro D h tk F₃ N₃ o1
    rw [List.size_toArray, hwl, List.take_length] at hys
    refine next D ys tl _ h tk F₃ rfl rfl hys fun p hp => N₃ p ?_
    simp only [List.mem_cons, List.mem_append] at hp ⊢
    rcases hp with h | h | h | h | h
    · exact .inl h
    · exact .inr (.inr (.inr (.inr (.inl h))))
    · exact .inr (.inr (.inr (.inr (.inr (.inl h)))))
    · exact .inr (.inr (.inr (.inr (.inr (.inr (.inl h))))))
    · exact .inr (.inl h)
end Mine
end
section
open PySem PySem.W PyProof.Rows PySem.Calls
set_option maxRecDepth 100000
set_option linter.unusedVariables false
namespace Mine
local macro_rules
  | `(tactic| walk_at "comp name") => `(tactic| (first
    | refine LCgL.ld_own (by assumption) (by news_mem) (by assumption) (by assumption) ?_
    | refine nm_built (by assumption) (Kept.out (by assumption)) (by boot_fast) ?_))
local macro_rules
  | `(tactic| walk_at "to comp name") => `(tactic| repeat ((fail_if_success (with_reducible show wpAny _ _ (eval (Expr.Name _ _) (compEnvC _ _ _ _)) _ _ _)); walk1))
local macro_rules
  | `(tactic| walk_at "to own") => `(tactic| repeat ((fail_if_success (with_reducible show wpAny _ _ (eval (.Call (.Name _ _) _ _ _) _) _ _ _)); walk1))
local macro_rules
  | `(tactic| walk_at "to call") => `(tactic| repeat ((fail_if_success (with_reducible show wpAny _ _ (call (.ref _) _) _ _ _)); walk1))
set_option maxHeartbeats 4000000 in
theorem part2 {w : World} {A : Around} {s : Shared} {mg mb : Str → Option Value} {h₀ : Heap} {L f : Addr} {cd : Value} {RR : Flow → Shared → Prop} {m : Str → Option Value} {o₁ o₂ : Obj} {ln lp : Addr} {us ys tl} {xs : List Int}
    (G : GG w mg mb h₀) (hh : A.handled = none) (hA : A.depth + 1 < recursionLimit) (F : Fr h₀ L s.heap m) (hs : m "numbers" = some (.ref ln)) (hs1 : m "pieces" = some (.ref lp)) (hP : Pcs (keys xs) ys tl)
    (N : News h₀ L s.heap ((lp, LCg.lst ys) :: (ln, LCg.lst us) :: (L + 2, o₁) :: (L + 1, o₂) :: tl))
    (next : ∀ lm zs m' h' tk, Fr h₀ L h' m' → m' "numbers" = some (.ref ln) → m' "pieces" = some (.ref lp) → m' "name" = some (.ref lm) → IntsAre zs ((keys xs).map fun n => (signB n : Int)) → News h₀ L h' ((lm, LCg.lst zs) :: (lp, LCg.lst ys) :: (ln, LCg.lst us) :: (L + 2, o₁) :: (L + 1, o₂) :: tl) → Part w A 3 L f cd RR { s with heap := h', toks := tk }) : Part w A 2 L f cd RR s := by
  have F₁ := Fr.over (Fr.over F (x := "numbers") hs) (x := "pieces") hs1
  clear F
  unfold Part
  conv => arg 3; arg 1; whnf
  have hl20 := nums_len xs
  have hkl : (keys xs).length ≤ 24 := by
    show ([60, 41, 15, 19] ++ nums xs).length ≤ 24
    rw [List.length_append]; show 4 + _ ≤ 24; omega
  refine wpAny_execs_cons (LCg.Assign_ListComp_U (F₀ := F₁) rfl (by with_unfolding_all rfl) rfl (by decide) rfl (by decide) rfl rfl rfl ?_)
  have G0 : Kept (GG w mg mb h₀) := ⟨G⟩
  iterate 1 walk1
  refine LCg.CompSrc.ledger (its := ys.toArray) hh F₁ N (.head _) (by rw [List.size_toArray]; exact Nat.le_trans (Nat.le_trans (Nat.le_of_eq hP.1) hkl) (by decide)) fun g => ?_
  refine comp_inv (fun i zs nw => nw = _ ∧ IntsAre zs (((keys xs).take i).map fun n => (signB n : Int))) ⟨rfl, .nil⟩ ?_ ?_
  · rintro i zs nw v I oI C oC D m₂ h tk E' hi ⟨rfl, hys⟩ hv hC hxv F₃ N₃ off ne
    have hi' : i < (keys xs).length := by rw [← hP.1]; simpa using hi
    obtain ⟨T, o, h1, h2, hcl, t, u, n, hd⟩ := hP.2.1 i (keys xs)[i] (by simp [hi'])
    obtain rfl : v = .ref T := by
      rw [List.getElem?_toArray, h1] at hv
      exact (Option.some.inj hv).symm
    have hT : h.IsTuple T #[.str ⟨#[signA (keys xs)[i]]⟩ t, .str ⟨#[signB (keys xs)[i]]⟩ u] := ⟨o, (N₃ _ (.tail _ (.tail _ (.tail _ (.tail _ (.tail _ (.tail _ (.tail _ h2)))))))).1, hcl, n, hd⟩
    walk_at "to comp name"
    walk_at "comp name"
    walk_at "to comp name"
    walk_at "comp name"
    walk
    refine comp_end (by assumption) (by assumption) off (.inr ⟨_, .head _, rfl, _, rfl⟩) ⟨rfl, ?_⟩
    rw [List.take_add_one, List.getElem?_eq_getElem hi', List.map_append]
    exact intsAre_append hys (.cons _ _ .nil)
  · rintro zs nw ⟨rfl, hys⟩
    intro D h tk F₃ N₃ o1
    rw [List.size_toArray, hP.1, List.take_length] at hys
    exact next D zs _ h tk F₃ rfl rfl rfl hys N₃
theorem sum_ints {prog : Program} {w : World} {A : Around} {E : Value → Shared → Prop} {s : Shared} {l : Addr} {vs : List Value} {ns : List Int} {Q : Value → Shared → Prop} (hh : A.handled = none) (hl : s.heap.IsList l vs.toArray) (hi : IntsAre vs ns)
    (h : ∀ t h' tk, Grows s.heap h' → Q (.int ns.sum t) { s with heap := h', toks := tk }) : wpAny (model prog w) A (call (.builtin "sum") [.ref l]) Q E s := by
  have e : (numsOf vs.toArray.toList) = ns := by rw [show vs.toArray.toList = vs from rfl, hi.numsOf]
  obtain ⟨xs, hxs⟩ := hi.allInts.items
  rw [hxs, nums_intItems] at e
  rw [hxs] at hl
  refine sum_intListG hh hl fun h' tk t' hk => ?_
  have := h t' h' tk hk
  rw [preSum_eq, List.take_of_length_le (by simp), e]; exact this
theorem sum_cast : ∀ l : List Nat, (l.map fun (n : Nat) => (n : Int)).sum = ((l.sum : Nat) : Int)
  | [] => rfl
  | n :: l => by rw [List.map_cons, List.sum_cons, List.sum_cons, sum_cast l]; omega
local macro_rules
  | `(tactic| walk_at "to len") => `(tactic| repeat ((fail_if_success (with_reducible show wpAny _ _ (call (.builtin "len") _) _ _ _)); walk1))
local macro_rules
  | `(tactic| walk_at "to sum") => `(tactic| repeat ((fail_if_success (with_reducible show wpAny _ _ (call (.builtin "sum") _) _ _ _)); walk1))
set_option maxHeartbeats 4000000 in
theorem part3 {w : World} {A : Around} {s : Shared} {mg mb : Str → Option Value} {h₀ : Heap} {L f : Addr} {cd : Value} {RR : Flow → Shared → Prop} {m : Str → Option Value} {o₁ o₂ : Obj} {ln lp lm : Addr} {us ys zs tl} {xs : List Int}
    (G : GG w mg mb h₀) (hh : A.handled = none) (hA : A.depth + 1 < recursionLimit) (F : Fr h₀ L s.heap m) (hs : m "numbers" = some (.ref ln)) (hs1 : m "pieces" = some (.ref lp)) (hs2 : m "name" = some (.ref lm))
    (hx : IntsAre us ((nums xs).map fun (n : Nat) => (n : Int))) (hz : IntsAre zs ((keys xs).map fun n => (signB n : Int)))
    (N : News h₀ L s.heap ((lm, LCg.lst zs) :: (lp, LCg.lst ys) :: (ln, LCg.lst us) :: (L + 2, o₁) :: (L + 1, o₂) :: tl))
    (next : ∀ t m' h' tk, Fr h₀ L h' m' → m' "numbers" = some (.ref ln) → m' "pieces" = some (.ref lp) → m' "name" = some (.ref lm) → m' "place" = some (.int (((nums xs).sum % ((keys xs).length - 3) : Nat) : Int) t) → News h₀ L h' ((lm, LCg.lst zs) :: (lp, LCg.lst ys) :: (ln, LCg.lst us) :: (L + 2, o₁) :: (L + 1, o₂) :: tl) → Part w A 4 L f cd RR { s with heap := h', toks := tk }) : Part w A 3 L f cd RR s := by
  have F₁ := Fr.over (Fr.over (Fr.over F (x := "numbers") hs) (x := "pieces") hs1) (x := "name") hs2
  clear F
  unfold Part
  conv => arg 3; arg 1; whnf
  have hl20 := nums_len xs
  have hkl : (keys xs).length = 4 + (nums xs).length := by
    show ([60, 41, 15, 19] ++ nums xs).length = _
    rw [List.length_append]; rfl
  have G0 : Kept (GG w mg mb h₀) := ⟨G⟩
  have hzl : zs.length = (keys xs).length := by rw [hz.length, List.length_map]
  have hul : us.length = (nums xs).length := by rw [hx.length, List.length_map]
  walk_at "to sum"
  refine sum_ints hh ⟨_, (N _ (.tail _ (.tail _ (.head _)))).1, rfl, _, rfl⟩ hx fun t h' tk hk => ?_
  have F₂ := F₁.keeps hk
  have N₂ := N.keeps hk
  clear F₁ N
  have hzL : h'.IsList lm zs.toArray := ⟨_, (N₂ _ (.head _)).1, rfl, _, rfl⟩
  walk_at "to len"
  refine len_list hzL (by rw [List.size_toArray, hzl]; omega) ?_
  rw [List.size_toArray, hzl]
  iterate 4 walk1
  (rename Fr _ _ _ _ => F₃); (rename News _ _ _ _ => N₃)
  have e : (List.map (fun (n : Nat) => (n : Int)) (nums xs)).sum.fmod (((keys xs).length : Int) - 3) = (((nums xs).sum % ((keys xs).length - 3) : Nat) : Int) := by
    rw [sum_cast, show (((keys xs).length : Int) - 3) = (((keys xs).length - 3 : Nat) : Int) by omega, Int.fmod_eq_emod_of_nonneg _ (by omega)]
    rfl
  rw [e] at F₃
  exact next _ _ _ _ F₃ rfl rfl rfl rfl N₃
end Mine
end
section
open PySem PySem.W PyProof.Rows PySem.Calls
set_option maxRecDepth 100000
set_option linter.unusedVariables false
namespace Mine
local macro_rules
  | `(tactic| walk_at "comp name") => `(tactic| (first
    | refine LCgL.ld_own (by assumption) (by news_mem) (by assumption) (by assumption) ?_
    | refine nm_built (by assumption) (Kept.out (by assumption)) (by boot_fast) ?_))
local macro_rules
  | `(tactic| walk_at "to comp name") => `(tactic| repeat ((fail_if_success (with_reducible show wpAny _ _ (eval (Expr.Name _ _) (compEnvC _ _ _ _)) _ _ _)); walk1))
local macro_rules
  | `(tactic| walk_at "to own") => `(tactic| repeat ((fail_if_success (with_reducible show wpAny _ _ (eval (.Call (.Name _ _) _ _ _) _) _ _ _)); walk1))
local macro_rules
  | `(tactic| walk_at "to call") => `(tactic| repeat ((fail_if_success (with_reducible show wpAny _ _ (call (.ref _) _) _ _ _)); walk1))
theorem ne_cell {h₀ h : Heap} {L c : Addr} {o : Obj} {v : Option Value} {nw : List (Addr × Obj)} {p : Addr × Obj} (N : News h₀ L h nw) (hp : p ∈ nw) (hc : (c, o) ∈ nw) (hd : o.data = .cell v) (hn : ∀ v, p.2.data ≠ .cell v) : p.1 ≠ c := by
  intro e
  have h1 := (N p hp).1
  have h2 : h.get? c = some o := (N _ hc).1
  rw [e, h2] at h1
  obtain rfl := Option.some.inj h1
  exact hn _ hd
set_option maxHeartbeats 4000000 in
theorem part4 {w : World} {A : Around} {s : Shared} {mg mb : Str → Option Value} {h₀ : Heap} {L f : Addr} {cd : Value} {RR : Flow → Shared → Prop} {m : Str → Option Value} {o₁ o₂ : Obj} {ln lp lm : Addr} {us ys zs tl} {xs : List Int} {p : Int} {tp : Tok}
    (G : GG w mg mb h₀) (hh : A.handled = none) (hA : A.depth + 2 < recursionLimit) (F : Fr h₀ L s.heap m) (hs : m "numbers" = some (.ref ln)) (hs1 : m "pieces" = some (.ref lp)) (hs2 : m "name" = some (.ref lm)) (hs3 : m "place" = some (.int p tp))
    (hP : Pcs (keys xs) ys tl) (hc : o₂.data = .cell none) (hc1 : o₁.data = .cell none)
    (N : News h₀ L s.heap ((lm, LCg.lst zs) :: (lp, LCg.lst ys) :: (ln, LCg.lst us) :: (L + 2, o₁) :: (L + 1, o₂) :: tl))
    (next : ∀ oc t m' h' tk, oc.data = .cell (some (.int (crcOf ((keys xs).map signB) : Nat) t)) → Fr h₀ L h' m' → m' "numbers" = some (.ref ln) → m' "pieces" = some (.ref lp) → m' "name" = some (.ref lm) → m' "place" = some (.int p tp) → News h₀ L h' ((lm, LCg.lst zs) :: (lp, LCg.lst ys) :: (ln, LCg.lst us) :: (L + 2, o₁) :: (L + 1, oc) :: tl) → Part w A 5 L f cd RR { s with heap := h', toks := tk }) : Part w A 4 L f cd RR s := by
  have F₁ := Fr.over (Fr.over (Fr.over (Fr.over F (x := "numbers") hs) (x := "pieces") hs1) (x := "name") hs2) (x := "place") hs3
  clear F
  unfold Part
  conv => arg 3; arg 1; whnf
  have hl20 := nums_len xs
  have hkl : (keys xs).length ≤ 24 := by
    show ([60, 41, 15, 19] ++ nums xs).length ≤ 24
    rw [List.length_append]; show 4 + _ ≤ 24; omega
  have G0 : Kept (GG w mg mb h₀) := ⟨G⟩
  walk_at "to own"
  refine own_callE (item 15) F₁ G0.out (by simp [defs]) (fun fa o hf ho => ?_) rfl rfl rfl rfl (by decide)
  iterate 1 walk1
  refine LCg.ListComp_U (F₀ := F₁) rfl (by decide) rfl (by decide) rfl ?_
  iterate 1 walk1
  refine LCg.CompSrc.ledger (its := ys.toArray) hh F₁ N (.tail _ (.head _)) (by rw [List.size_toArray]; exact Nat.le_trans (Nat.le_trans (Nat.le_of_eq hP.1) hkl) (by decide)) fun g => ?_
  refine comp_inv (fun i zs nw => nw = _ ∧ SignsAre zs (((keys xs).take i).map signB)) ⟨rfl, rfl, fun _ _ h => by simp at h⟩ ?_ ?_
  · rintro i qs nw v I oI C oC D m₂ h tk E' hi ⟨rfl, hys⟩ hv hC hxv F₃ N₃ off ne
    have hi' : i < (keys xs).length := by rw [← hP.1]; simpa using hi
    obtain ⟨T, o, h1, h2, hcl, t, u, n, hd⟩ := hP.2.1 i (keys xs)[i] (by simp [hi'])
    obtain rfl : v = .ref T := by
      rw [List.getElem?_toArray, h1] at hv
      exact (Option.some.inj hv).symm
    have hT : h.IsTuple T #[.str ⟨#[signA (keys xs)[i]]⟩ t, .str ⟨#[signB (keys xs)[i]]⟩ u] := ⟨o, (N₃ _ (.tail _ (.tail _ (.tail _ (.tail _ (.tail _ (.tail _ (.tail _ (.tail _ h2))))))))).1, hcl, n, hd⟩
    walk_at "to comp name"
    walk_at "comp name"
    walk
    refine comp_end (by assumption) (by assumption) off (.inr ⟨_, .tail _ (.head _), rfl, _, rfl⟩) ⟨rfl, ?_, ?_⟩
    · rw [List.length_append, hys.1, List.length_map, List.length_map, List.length_take, List.length_take]
      simp; omega
    · intro j c hj
      rw [List.take_add_one, List.getElem?_eq_getElem hi', List.map_append] at hj
      have hlq : qs.length = i := by rw [hys.1, List.length_map, List.length_take]; omega
      have hlm : (List.map signB (List.take i (keys xs))).length = i := by rw [← hys.1, hlq]
      by_cases hlt : j < i
      · rw [List.getElem?_append_left (by omega)] at hj
        obtain ⟨t', ht'⟩ := hys.2 j c hj
        exact ⟨t', by rw [List.getElem?_append_left (by omega)]; exact ht'⟩
      · rw [List.getElem?_append_right (by omega), hlm] at hj
        have hj0 : j - i = 0 := by
          have := (List.getElem?_eq_some_iff.mp hj).1
          simp at this; omega
        rw [hj0] at hj
        refine ⟨u, ?_⟩
        rw [List.getElem?_append_right (by omega), hlq, hj0]
        simp at hj ⊢
        exact hj
  · rintro qs nw ⟨rfl, hys⟩
    intro D h tk F₃ N₃ o1
    rw [List.size_toArray, hP.1, List.take_length] at hys
    walk1
    refine crc_call (G0.out.keeps F₃.keep) hf (by omega) hh ⟨_, (N₃ _ (.head _)).1, rfl, _, rfl⟩ hys (by rw [List.length_map]; omega) fun t h' tk hk => ?_
    have F₄ := F₃.keeps hk
    have N₄ := N₃.keeps hk
    clear F₃ N₃
    have N₅ : News h₀ L h' ([(lm, LCg.lst zs), (lp, LCg.lst ys), (ln, LCg.lst us), (L + 2, o₁)] ++ (L + 1, o₂) :: tl) := fun p hp => N₄ p (.tail _ hp)
    refine stCN F₄ N₅ rfl hc ?_ ?_ ?_
    · intro p hp
      simp only [List.mem_cons, List.not_mem_nil, or_false] at hp
      rcases hp with rfl | rfl | rfl | rfl
      · exact ne_cell N₅ (by simp) (by simp) hc (fun v e => by cases e)
      · exact ne_cell N₅ (by simp) (by simp) hc (fun v e => by cases e)
      · exact ne_cell N₅ (by simp) (by simp) hc (fun v e => by cases e)
      · exact Nat.succ_ne_self _
    · intro p hp
      exact ne_cell N₅ (by simp [hp]) (by simp) hc (hP.2.2 p hp)
    · intro h'' oc F₆ N₆ hoc
      exact next oc _ _ _ _ hoc F₆ rfl rfl rfl rfl N₆
end Mine
end
section
open PySem PySem.W PyProof.Rows PySem.Calls
set_option maxRecDepth 100000
set_option linter.unusedVariables false
namespace Mine
local macro_rules
  | `(tactic| walk_at "comp name") => `(tactic| (first
    | refine LCgL.ld_own (by assumption) (by news_mem) (by assumption) (by assumption) ?_
    | refine nm_built (by assumption) (Kept.out (by assumption)) (by boot_fast) ?_))
local macro_rules
  | `(tactic| walk_at "to comp name") => `(tactic| repeat ((fail_if_success (with_reducible show wpAny _ _ (eval (Expr.Name _ _) (compEnvC _ _ _ _)) _ _ _)); walk1))
local macro_rules
  | `(tactic| walk_at "to own") => `(tactic| repeat ((fail_if_success (with_reducible show wpAny _ _ (eval (.Call (.Name _ _) _ _ _) _) _ _ _)); walk1))
local macro_rules
  | `(tactic| walk_at "to call") => `(tactic| repeat ((fail_if_success (with_reducible show wpAny _ _ (call (.ref _) _) _ _ _)); walk1))
def hexCode (d : Nat) : Nat := if d < 10 then 48 + d else 87 + d
def tagOf (c spot : Nat) : Nat := hexCode (c >>> (28 - 4 * spot) &&& 15)
def hexStr : Str := "0123456789abcdef"
theorem hex_at : ∀ d : Nat, d < 16 → Txt.item hexStr (d : Int) = ⟨#[hexCode d]⟩ := by decide +kernel
theorem hex_item {prog : Program} {w : World} {A : Around} {E : Value → Shared → Prop} {s : Shared} {value slice : Expr} {t u : Tok} {Q : Value → Shared → Prop} {i : Int} (c k : Nat) (hi : i = ((c >>> (28 - 4 * k) &&& 15 : Nat) : Int))
    (h : Q (.str ⟨#[tagOf c k]⟩ s.toks) { s with toks := s.toks + 1 })
    (hs : subscripted slice false (.str hexStr t) (.int i u) = operate [.str hexStr t, .int i u] (getItem (.str hexStr t) (.int i u)))
    (ht : ∀ r, letTemporaryGo value (.str hexStr t) r = pure ()) :
    wpAny (model prog w) A (subscriptTail value slice (.str hexStr t) (.int i u)) Q E s := by
  have hd : c >>> (28 - 4 * k) &&& 15 < 16 := Nat.lt_of_le_of_lt Nat.and_le_right (by decide)
  have hq : tagOf c k = hexCode (c >>> (28 - 4 * k) &&& 15) := rfl
  have hl : hexStr.length = 16 := by decide
  rw [hq] at h
  revert hi h hd
  generalize c >>> (28 - 4 * k) &&& 15 = d
  intro hi h hd
  subst hi
  refine item_str ?_ ?_ ?_ (fun _ => ?_) hs ht
  · unfold fitsSsize
    rw [decide_eq_false (by omega), decide_eq_false (by omega)]
    rfl
  · rw [hl]; omega
  · rw [hl]; omega
  · rw [hex_at d hd]; exact h
theorem tag_idx (c i : Nat) (hi : i < 8) : Builtin.bitAnd ((c : Int).fdiv (2 ^ ((28 : Int) - 4 * (0 + (i : Int))).toNat)) 15 = ((c >>> (28 - 4 * i) &&& 15 : Nat) : Int) := by
  rw [show ((28 : Int) - 4 * (0 + (i : Int))).toNat = 28 - 4 * i by omega, fdiv_pow_nat]
  exact bitAnd_nat _ 15
set_option maxHeartbeats 4000000 in
theorem part5 {w : World} {A : Around} {s : Shared} {mg mb : Str → Option Value} {h₀ : Heap} {L f : Addr} {cd : Value} {RR : Flow → Shared → Prop} {m : Str → Option Value} {o₁ oc : Obj} {ln lp lm : Addr} {us ys zs tl} {p : Int} {tp tc : Tok} {c : Nat}
    (G : GG w mg mb h₀) (hh : A.handled = none) (hA : A.depth + 2 < recursionLimit) (F : Fr h₀ L s.heap m) (hs : m "numbers" = some (.ref ln)) (hs1 : m "pieces" = some (.ref lp)) (hs2 : m "name" = some (.ref lm)) (hs3 : m "place" = some (.int p tp))
    (hc : oc.data = .cell (some (.int (c : Int) tc))) (hcl : c < 2 ^ 32)
    (N : News h₀ L s.heap ((lm, LCg.lst zs) :: (lp, LCg.lst ys) :: (ln, LCg.lst us) :: (L + 2, o₁) :: (L + 1, oc) :: tl))
    (next : ∀ lt qs m' h' tk, IntsAre qs ((List.range 8).map fun j => (tagOf c j : Int)) → Fr h₀ L h' m' → m' "numbers" = some (.ref ln) → m' "pieces" = some (.ref lp) → m' "name" = some (.ref lm) → m' "place" = some (.int p tp) → m' "tags" = some (.ref lt) → News h₀ L h' ((lt, LCg.lst qs) :: (lm, LCg.lst zs) :: (lp, LCg.lst ys) :: (ln, LCg.lst us) :: (L + 2, o₁) :: (L + 1, oc) :: tl) → Part w A 6 L f cd RR { s with heap := h', toks := tk }) : Part w A 5 L f cd RR s := by
  have F₁ := Fr.over (Fr.over (Fr.over (Fr.over F (x := "numbers") hs) (x := "pieces") hs1) (x := "name") hs2) (x := "place") hs3
  clear F
  unfold Part
  conv => arg 3; arg 1; whnf
  have G0 : Kept (GG w mg mb h₀) := ⟨G⟩
  refine wpAny_execs_cons (LCg.Assign_ListComp_U (F₀ := F₁) (cl := [(Str.ofString "crc", L + 1)]) rfl (by with_unfolding_all rfl) rfl (by decide) rfl (by decide) rfl rfl rfl ?_)
  iterate 7 walk1
  (rename Fr _ _ _ _ => F₂); (rename News _ _ _ _ => N₂); (rename IsRange _ _ _ _ _ _ _ _ => hr)
  refine LCg.CompSrc.range (n := 8) hh F₂ N₂ hr (by decide) (by decide) (by decide) fun g => ?_
  refine comp_inv (fun i qs nw => nw = _ ∧ IntsAre qs ((List.range i).map fun j => (tagOf c j : Int))) ⟨rfl, .nil⟩ ?_ ?_
  · rintro i qs nw v I oI C oC D m₂ h tk E' hi ⟨rfl, hqs⟩ ⟨t, rfl⟩ hC hxv F₃ N₃ off ne
    have hcell : h.IsCell (L + 1) (some (.int (c : Int) tc)) := ⟨oc, (N₃ (L + 1, oc) (by simp)).1, hc⟩
    walk_at "to comp name"
    walk_at "comp name"
    walk_at "to comp name"
    refine ldCellK rfl hcell ?_
    walk_at "to comp name"
    walk_at "comp name"
    iterate 5 walk1
    refine hex_item c i (tag_idx c i hi) ?_ (by with_unfolding_all rfl) (by intro _; with_unfolding_all rfl)
    walk
    refine comp_end (by assumption) (by assumption) off True.intro ⟨rfl, ?_⟩
    rw [List.range_succ, List.map_append]
    exact intsAre_append hqs (.cons _ _ .nil)
  · rintro qs nw ⟨rfl, hqs⟩
    intro D h tk F₃ N₃ o1
    exact next D qs _ h tk hqs F₃ rfl rfl rfl rfl rfl N₃
end Mine
end
section
open PySem PySem.W PyProof.Rows PySem.Calls
set_option maxRecDepth 100000
set_option linter.unusedVariables false
namespace Mine
local macro_rules
  | `(tactic| walk_at "comp name") => `(tactic| (first
    | refine LCgL.ld_own (by assumption) (by news_mem) (by assumption) (by assumption) ?_
    | refine nm_built (by assumption) (Kept.out (by assumption)) (by boot_fast) ?_))
local macro_rules
  | `(tactic| walk_at "to comp name") => `(tactic| repeat ((fail_if_success (with_reducible show wpAny _ _ (eval (Expr.Name _ _) (compEnvC _ _ _ _)) _ _ _)); walk1))
local macro_rules
  | `(tactic| walk_at "to own") => `(tactic| repeat ((fail_if_success (with_reducible show wpAny _ _ (eval (.Call (.Name _ _) _ _ _) _) _ _ _)); walk1))
local macro_rules
  | `(tactic| walk_at "to call") => `(tactic| repeat ((fail_if_success (with_reducible show wpAny _ _ (call (.ref _) _) _ _ _)); walk1))
local macro_rules
  | `(tactic| walk_at "to For") => `(tactic| repeat ((fail_if_success (with_reducible show wpAny _ _ (exec (.For _ _ _ _ _) _) _ _ _)); walk1))
local macro_rules
  | `(tactic| walk_at "to enum") => `(tactic| repeat ((fail_if_success (with_reducible show wpAny _ _ (call (.type "enumerate") _) _ _ _)); walk1))
def inGap (p i : Nat) : Bool := p ≤ i && i < p + 4
def signOf (xs : List Int) (p i : Nat) : Nat := if inGap p i then 12272 + ((nums xs).getD (i - p) 0) % 12 else signA ((keys xs).getD i 0)
def bitOf (xs : List Int) (c p i : Nat) : List Nat := [signOf xs p i, (hid hidP ((i % 27 : Nat) : Int)).toNat] ++ if i < 8 then [917504 + tagOf c i] else []
def txt (xs : List Int) (c p i : Nat) : List Nat := (List.range i).flatMap (bitOf xs c p)
abbrev ledOf (lt lm lp ln L : Addr) (qs zs ys us : List Value) (o₁ oc : Obj) (tl : List (Addr × Obj)) : List (Addr × Obj) := (lt, LCg.lst qs) :: (lm, LCg.lst zs) :: (lp, LCg.lst ys) :: (ln, LCg.lst us) :: (L + 2, o₁) :: (L + 1, oc) :: tl
structure Nm (m : Str → Option Value) (lt lm lp ln : Addr) (p : Nat) (tp : Tok) : Prop where
  a : m "numbers" = some (.ref ln)
  b : m "pieces" = some (.ref lp)
  c : m "name" = some (.ref lm)
  d : m "place" = some (.int (p : Int) tp)
  e : m "tags" = some (.ref lt)
theorem Nm.fr {m : Str → Option Value} {lt lm lp ln : Addr} {p : Nat} {tp : Tok} (x : Nm m lt lm lp ln p tp) {h₀ h : Heap} {L : Addr} (F : Fr h₀ L h m) : Fr h₀ L h (fun y => if y = "numbers" then some (.ref ln) else if y = "pieces" then some (.ref lp) else if y = "name" then some (.ref lm) else if y = "place" then some (.int (p : Int) tp) else if y = "tags" then some (.ref lt) else m y) :=
  Fr.over (Fr.over (Fr.over (Fr.over (Fr.over F (x := "tags") x.e) (x := "place") x.d) (x := "name") x.c) (x := "pieces") x.b) (x := "numbers") x.a
def loopBody : List Stmt := match ((item 19).body : List PySem.Stmt)[7]? with
  | some (PySem.Stmt.For _ _ body _ _) => body
  | _ => []
/-- the first statement of a turn: one sign is put behind the text -/
def Mid (h₀ : Heap) (L : Addr) (led : List (Addr × Obj)) (lt lm lp ln : Addr) (p : Nat) (tp : Tok) (i : Nat) (ti : Tok) (x : List Nat) (s₁ : Shared) (fl : Flow) (s₂ : Shared) : Prop :=
  fl = .next ∧ ∃ h' tk m' t, s₂ = { s₁ with heap := h', toks := tk } ∧ Fr h₀ L h' m' ∧ News h₀ L h' led ∧ Nm m' lt lm lp ln p tp ∧ m' "spot" = some (.int (i : Int) ti) ∧ m' "text" = some (.str ⟨x.toArray⟩ t)
local macro_rules
  | `(tactic| walk_at "to sum") => `(tactic| repeat ((fail_if_success (with_reducible show wpAny _ _ (call (.builtin "sum") _) _ _ _)); walk1))
local macro_rules
  | `(tactic| walk_at "to chr") => `(tactic| repeat ((fail_if_success (with_reducible show wpAny _ _ (call (.builtin "chr") _) _ _ _)); walk1))
theorem app_sign (x : List Nat) (a : Nat) : ((⟨x.toArray⟩ : Str) ++ (⟨#[a]⟩ : Str)) = ⟨(x ++ [a]).toArray⟩ := congrArg Str.mk (by simp)
theorem gap_sum (l : List Nat) (i p : Nat) (h : p ≤ i) : (((l.map fun (n : Nat) => (n : Int)).drop ((i : Int) - (p : Int)).toNat).take (min ((i : Int) - (p : Int) + 1).toNat (l.map fun (n : Nat) => (n : Int)).length - ((i : Int) - (p : Int)).toNat)).sum = ((l.getD (i - p) 0 : Nat) : Int) := by
  rw [show ((i : Int) - (p : Int)).toNat = i - p by omega, show ((i : Int) - (p : Int) + 1).toNat = i - p + 1 by omega, List.length_map]
  generalize i - p = k
  by_cases hk : k < l.length
  · rw [show min (k + 1) l.length - k = 1 by omega, ← List.map_drop, ← List.map_take, sum_cast, List.drop_eq_getElem_cons hk, List.getD_eq_getElem?_getD, List.getElem?_eq_getElem hk]
    show ((l[k] + 0 : Nat) : Int) = _
    rfl
  · rw [show min (k + 1) l.length - k = 0 by omega, List.take_zero, List.getD_eq_getElem?_getD, List.getElem?_eq_none (by omega)]
    rfl
set_option maxHeartbeats 4000000 in
theorem turn1 {w : World} {A : Around} {s : Shared} {mg mb : Str → Option Value} {h₀ : Heap} {L f : Addr} {cd : Value} {m : Str → Option Value} {o₁ oc : Obj} {lt ln lp lm : Addr} {qs us ys zs tl} {p c i : Nat} {tp ti tx : Tok} {xs : List Int} {T : Addr} {x : List Nat} {E : Value → Shared → Prop}
    (G : GG w mg mb h₀) (hh : A.handled = none) (F : Fr h₀ L s.heap m) (hn : Nm m lt lm lp ln p tp) (hi : m "spot" = some (.int (i : Int) ti)) (ht : m "text" = some (.str ⟨x.toArray⟩ tx)) (hpi : m "piece" = some (.ref T)) (hxl : x.length ≤ 1000) (hi24 : i < 24) (hp24 : p < 24)
    (hx : IntsAre us ((nums xs).map fun (n : Nat) => (n : Int))) (hT : ∀ h', Grows s.heap h' → ∃ t u, h'.IsTuple T #[.str ⟨#[signA ((keys xs).getD i 0)]⟩ t, .str ⟨#[signB ((keys xs).getD i 0)]⟩ u])
    (N : News h₀ L s.heap (ledOf lt lm lp ln L qs zs ys us o₁ oc tl)) :
    wpAny (model pw w) A (exec (loopBody.headD (.Pass default)) (envOfC (item 19).name (item 19).scope L f cd)) (Mid h₀ L (ledOf lt lm lp ln L qs zs ys us o₁ oc tl) lt lm lp ln p tp i ti (x ++ [signOf xs p i]) s) E s := by
  have F₁ := Fr.over (Fr.over (Fr.over (hn.fr F) (x := "spot") hi) (x := "text") ht) (x := "piece") hpi
  clear F
  unfold ledOf at N
  have hul : us.length = (nums xs).length := by rw [hx.length, List.length_map]
  have hl20 := nums_len xs
  have hxx : (List.map (fun (n : Nat) => (n : Int)) (nums xs)).length ≤ 20 := by rw [List.length_map]; exact hl20
  obtain ⟨t0, u0, hT0⟩ := hT s.heap fun _ _ e => e
  conv => arg 3; arg 1; whnf
  have G0 : Kept (GG w mg mb h₀) := ⟨G⟩
  repeat' ((fail_if_success (with_reducible show wpAny _ _ (call (.builtin "sum") _) _ _ _)); walk1)
  · (rename Fr _ _ _ _ => F₂); (rename News _ _ _ _ => N₂)
    have hle : p ≤ i := by omega
    have hsl := kmk_run (x := (i : Int) - (p : Int)) (y := (i : Int) - (p : Int) + 1) hx (by omega) (by omega)
    refine sum_ints hh ⟨_, (N₂ _ (.head _)).1, rfl, _, rfl⟩ hsl fun t h' tk hk => ?_
    rw [gap_sum _ _ _ hle]
    have F₃ := F₂.keeps hk
    have N₃ := N₂.keeps hk
    clear F₂ N₂
    walk_at "to chr"
    refine chr_nat (12272 + ((nums xs).getD (i - p) 0) % 12) ?_ (by omega) ?_
    · rw [Int.fmod_eq_emod_of_nonneg _ (by decide)]; omega
    walk
    (rename Fr _ _ _ _ => F₄); (rename News _ _ _ _ => N₄)
    rw [app_sign] at F₄
    rw [signOf, if_pos (by unfold inGap; rw [decide_eq_true hle, decide_eq_true (by omega)]; rfl)]
    exact ⟨rfl, _, _, _, _, rfl, F₄, fun q hq => N₄ q (.tail _ hq), ⟨rfl, rfl, rfl, rfl, rfl⟩, rfl, rfl⟩
  all_goals
    (rename Fr _ _ _ _ => F₄); (rename News _ _ _ _ => N₄)
    rw [app_sign] at F₄
    rw [signOf, if_neg (by unfold inGap; intro e; simp at e; omega)]
    exact ⟨rfl, _, _, _, _, rfl, F₄, N₄, ⟨rfl, rfl, rfl, rfl, rfl⟩, rfl, rfl⟩
end Mine
end
section
open PySem PySem.W PyProof.Rows PySem.Calls
set_option maxRecDepth 100000
set_option linter.unusedVariables false
namespace Mine
local macro_rules
  | `(tactic| walk_at "comp name") => `(tactic| (first
    | refine LCgL.ld_own (by assumption) (by news_mem) (by assumption) (by assumption) ?_
    | refine nm_built (by assumption) (Kept.out (by assumption)) (by boot_fast) ?_))
local macro_rules
  | `(tactic| walk_at "to comp name") => `(tactic| repeat ((fail_if_success (with_reducible show wpAny _ _ (eval (Expr.Name _ _) (compEnvC _ _ _ _)) _ _ _)); walk1))
local macro_rules
  | `(tactic| walk_at "to own") => `(tactic| repeat ((fail_if_success (with_reducible show wpAny _ _ (eval (.Call (.Name _ _) _ _ _) _) _ _ _)); walk1))
local macro_rules
  | `(tactic| walk_at "to call") => `(tactic| repeat ((fail_if_success (with_reducible show wpAny _ _ (call (.ref _) _) _ _ _)); walk1))
local macro_rules
  | `(tactic| walk_at "to chr") => `(tactic| repeat ((fail_if_success (with_reducible show wpAny _ _ (call (.builtin "chr") _) _ _ _)); walk1))
local macro_rules
  | `(tactic| walk_at "to item") => `(tactic| repeat ((fail_if_success (with_reducible show wpAny _ _ (subscriptTail _ _ _ _) _ _ _)); walk1))
/-- the second name of a call is an own def -/
local macro_rules
  | `(tactic| walk_at "to hidden") => `(tactic| repeat ((fail_if_success (with_reducible show wpAny _ _ (eval (.Call (.Name (Str.ofString "_law_hidden") _) _ _ _) _) _ _ _)); walk1))
theorem hid_ok : ∀ c : Nat, c < 27 → (c : Int) < hidSum hidP ∧ 0 ≤ hid hidP c ∧ (hid hidP c).toNat ≤ 1114111 := by decide +kernel
def restOf (c i : Nat) : List Nat := [(hid hidP ((i % 27 : Nat) : Int)).toNat] ++ if i < 8 then [917504 + tagOf c i] else []
theorem tagOf_le (c i : Nat) : tagOf c i ≤ 102 := by
  have hd : c >>> (28 - 4 * i) &&& 15 < 16 := Nat.lt_of_le_of_lt Nat.and_le_right (by decide)
  unfold tagOf
  revert hd
  generalize c >>> (28 - 4 * i) &&& 15 = d
  intro hd
  unfold hexCode
  split <;> omega
set_option maxHeartbeats 4000000 in
theorem turn2 {w : World} {A : Around} {s : Shared} {mg mb : Str → Option Value} {h₀ : Heap} {L f : Addr} {cd : Value} {m : Str → Option Value} {o₁ oc : Obj} {lt ln lp lm : Addr} {qs us ys zs tl} {p c i : Nat} {tp ti tx : Tok} {x : List Nat} {E : Value → Shared → Prop}
    (G : GG w mg mb h₀) (hh : A.handled = none) (hA : A.depth + 2 < recursionLimit) (F : Fr h₀ L s.heap m) (hn : Nm m lt lm lp ln p tp) (hi : m "spot" = some (.int (i : Int) ti)) (ht : m "text" = some (.str ⟨x.toArray⟩ tx)) (hxl : x.length ≤ 1000)
    (hq : IntsAre qs ((List.range 8).map fun j => (tagOf c j : Int)))
    (N : News h₀ L s.heap (ledOf lt lm lp ln L qs zs ys us o₁ oc tl)) :
    wpAny (model pw w) A (execs loopBody.tail (envOfC (item 19).name (item 19).scope L f cd)) (Mid h₀ L (ledOf lt lm lp ln L qs zs ys us o₁ oc tl) lt lm lp ln p tp i ti (x ++ restOf c i) s) E s := by
  have F₁ := Fr.over (Fr.over (hn.fr F) (x := "spot") hi) (x := "text") ht
  clear F
  unfold ledOf at N
  conv => arg 3; arg 1; whnf
  have G0 : Kept (GG w mg mb h₀) := ⟨G⟩
  walk_at "to hidden"
  refine own_callE (item 12) F₁ G0.out (by simp [defs]) (fun fa o hf ho => ?_) rfl rfl rfl rfl (by decide)
  iterate 6 walk1
  have hk := hid_ok (i % 27) (Nat.mod_lt _ (by decide))
  rw [show (i : Int).fmod 27 = ((i % 27 : Nat) : Int) by rw [Int.fmod_eq_emod_of_nonneg _ (by decide)]; rfl]
  refine hidden_call (G0.out.keeps F₁.keep) hf (by omega) hh hk.1 fun t h' tk hgr => ?_
  have F₂ := F₁.keeps hgr
  have N₂ := N.keeps hgr
  clear F₁ N
  walk_at "to chr"
  refine chr_nat (hid hidP ((i % 27 : Nat) : Int)).toNat (by omega) hk.2.2 ?_
  repeat' ((fail_if_success (with_reducible show wpAny _ _ (subscriptTail _ _ _ _) _ _ _)); walk1)
  · (rename Fr _ _ _ _ => F₃); (rename News _ _ _ _ => N₃)
    have hi8 : i < 8 := by omega
    have hql : qs.length = 8 := by rw [hq.length]; simp
    obtain ⟨k, t', hv, hk'⟩ := IntsAre.at hq i (qs[i]'(by omega)) (List.getElem?_eq_getElem (by omega))
    have hkt : k = (tagOf c i : Int) := by
      rw [List.getElem?_map, List.getElem?_range hi8] at hk'
      exact (Option.some.inj hk').symm
    subst hkt
    have htl := tagOf_le c i
    refine item_list (items := qs.toArray) (x := .int (tagOf c i : Int) t') ⟨_, (N₃ _ (.head _)).1, rfl, _, rfl⟩ (by omega) (by omega) ?_ ?_
    · rw [Int.toNat_natCast, List.getElem?_toArray, List.getElem?_eq_getElem (by omega), hv]
    walk_at "to chr"
    refine chr_nat (917504 + tagOf c i) (by omega) (by omega) ?_
    walk
    (rename Fr _ _ _ _ => F₄); (rename News _ _ _ _ => N₄)
    rw [app_sign, app_sign, List.append_assoc] at F₄
    rw [restOf, if_pos hi8]
    exact ⟨rfl, _, _, _, _, rfl, F₄, N₄, ⟨rfl, rfl, rfl, rfl, rfl⟩, rfl, rfl⟩
  · (rename Fr _ _ _ _ => F₄); (rename News _ _ _ _ => N₄)
    rw [app_sign] at F₄
    rw [restOf, if_neg (by omega), List.append_nil]
    exact ⟨rfl, _, _, _, _, rfl, F₄, N₄, ⟨rfl, rfl, rfl, rfl, rfl⟩, rfl, rfl⟩
end Mine
end
section
open PySem PySem.W PyProof.Rows PySem.Calls
set_option maxRecDepth 100000
set_option linter.unusedVariables false
namespace Mine
local macro_rules
  | `(tactic| walk_at "comp name") => `(tactic| (first
    | refine LCgL.ld_own (by assumption) (by news_mem) (by assumption) (by assumption) ?_
    | refine nm_built (by assumption) (Kept.out (by assumption)) (by boot_fast) ?_))
local macro_rules
  | `(tactic| walk_at "to comp name") => `(tactic| repeat ((fail_if_success (with_reducible show wpAny _ _ (eval (Expr.Name _ _) (compEnvC _ _ _ _)) _ _ _)); walk1))
local macro_rules
  | `(tactic| walk_at "to own") => `(tactic| repeat ((fail_if_success (with_reducible show wpAny _ _ (eval (.Call (.Name _ _) _ _ _) _) _ _ _)); walk1))
local macro_rules
  | `(tactic| walk_at "to call") => `(tactic| repeat ((fail_if_success (with_reducible show wpAny _ _ (call (.ref _) _) _ _ _)); walk1))
theorem txt_succ (xs : List Int) (c p i : Nat) : txt xs c p (i + 1) = txt xs c p i ++ [signOf xs p i] ++ restOf c i := by
  unfold txt
  rw [List.range_succ, List.flatMap_append, List.append_assoc]
  congr 1
  simp [bitOf, restOf]
theorem txt_len (xs : List Int) (c p : Nat) : ∀ i, (txt xs c p i).length ≤ 3 * i
  | 0 => Nat.le_refl _
  | i + 1 => by
    have := txt_len xs c p i
    rw [txt_succ, List.length_append, List.length_append]
    have : (restOf c i).length ≤ 2 := by unfold restOf; split <;> simp
    simp only [List.length_singleton]
    omega
set_option maxHeartbeats 4000000 in
theorem part6 {w : World} {A : Around} {s : Shared} {mg mb : Str → Option Value} {h₀ : Heap} {L f : Addr} {cd : Value} {RR : Flow → Shared → Prop} {m : Str → Option Value} {o₁ oc : Obj} {lt ln lp lm : Addr} {qs us ys zs tl} {p c : Nat} {tp : Tok} {xs : List Int}
    (G : GG w mg mb h₀) (hh : A.handled = none) (hA : A.depth + 2 < recursionLimit) (F : Fr h₀ L s.heap m) (hs : m "numbers" = some (.ref ln)) (hs1 : m "pieces" = some (.ref lp)) (hs2 : m "name" = some (.ref lm)) (hs3 : m "place" = some (.int (p : Int) tp)) (hs4 : m "tags" = some (.ref lt))
    (hx : IntsAre us ((nums xs).map fun (n : Nat) => (n : Int))) (hP : Pcs (keys xs) ys tl) (hp24 : p < 24) (hq : IntsAre qs ((List.range 8).map fun j => (tagOf c j : Int)))
    (N : News h₀ L s.heap ((lt, LCg.lst qs) :: (lm, LCg.lst zs) :: (lp, LCg.lst ys) :: (ln, LCg.lst us) :: (L + 2, o₁) :: (L + 1, oc) :: tl))
    (next : ∀ t m' h' tk, Fr h₀ L h' m' → m' "pieces" = some (.ref lp) → m' "name" = some (.ref lm) → m' "place" = some (.int (p : Int) tp) → m' "tags" = some (.ref lt) → m' "text" = some (.str ⟨(txt xs c p (keys xs).length).toArray⟩ t) → News h₀ L h' ((lt, LCg.lst qs) :: (lm, LCg.lst zs) :: (lp, LCg.lst ys) :: (ln, LCg.lst us) :: (L + 2, o₁) :: (L + 1, oc) :: tl) → Part w A 8 L f cd RR { s with heap := h', toks := tk }) : Part w A 6 L f cd RR s := by
  have F₁ := Fr.over (Fr.over (Fr.over (Fr.over (Fr.over F (x := "numbers") hs) (x := "pieces") hs1) (x := "name") hs2) (x := "place") hs3) (x := "tags") hs4
  clear F
  unfold Part
  conv => arg 3; arg 1; whnf
  have G0 : Kept (GG w mg mb h₀) := ⟨G⟩
  walk1
  walk1
  walk1
  walk1
  walk1
  (rename Fr _ _ _ _ => F₂); (rename News _ _ _ _ => N₂)
  refine' For_turns (h₀ := h₀) ?k1 ?_
  case k1 => exact F₂
  iterate 6 walk1
  (rename Fr _ _ _ _ => F₂); (rename News _ _ _ _ => N₂)
  have hlen : ys.toArray.size = (keys xs).length := by rw [List.size_toArray, hP.1]
  have hl20 := nums_len xs
  have hkl : (keys xs).length ≤ 24 := by
    show ([60, 41, 15, 19] ++ nums xs).length ≤ 24
    rw [List.length_append]; show 4 + _ ≤ 24; omega
  have hyL : (_ : Heap).IsList lp ys.toArray := ⟨_, (N₂ _ (.tail _ (.tail _ (.head _)))).1, rfl, _, rfl⟩
  have hLlt := F₂.ns.lt
  have hlplt : lp < _ := Heap.lt_size (N₂ _ (.tail _ (.tail _ (.head _)))).1
  have hlt2 := fun p hp => Heap.lt_size (N₂ p hp).1
  have hn1 := next_is_new F₂
  refine call_enumerate_list hyL fun h₁ he hit hsz hk => ?_
  refine wpAny_pyIter_enum he ?_
  have F₃ := F₂.keeps hk
  have N₃ := N₂.keeps hk
  have hab := F₂.above
  have W := (WalksT.enumerate (prog := pw) (w := w) (A := A) hh _ _ lp (Nat.succ_ne_self _) (Nat.ne_of_lt (Nat.lt_succ_of_lt hlplt)) (Nat.ne_of_lt hlplt) ys.toArray).toU
  refine' turns_pair (P2 := fun i v0 v1 => i < (keys xs).length ∧ (∃ t, v0 = .int (i : Int) t) ∧ ys[i]? = some v1)
    (fun i m => Nm m lt lm lp ln p tp ∧ ∃ t, m "text" = some (.str ⟨(txt xs c p i).toArray⟩ t)) hh W ?a1 rfl rfl rfl ?a2 ?a3 ?a4 ?a5 F₃ N₃ ?a6 ?a7 ?a8
  case a1 =>
    rintro i vals ⟨t, x, hx, rfl⟩
    rw [List.getElem?_toArray] at hx
    exact ⟨_, _, rfl, by rw [← hP.1]; exact (List.getElem?_eq_some_iff.mp hx).1, ⟨t, rfl⟩, hx⟩
  case a2 =>
    intro hm
    simp only [List.mem_cons, List.not_mem_nil, or_false] at hm
    rcases hm with e | e | e
    · exact Nat.ne_of_lt (Nat.lt_succ_of_lt hLlt) e
    · exact Nat.ne_of_lt hLlt e
    · exact (N₂ _ (.tail _ (.tail _ (.head _)))).2.1 e.symm
  case a3 =>
    intro b hb
    simp only [List.mem_cons, List.not_mem_nil, or_false] at hb
    rcases hb with rfl | rfl
    · exact Heap.get?_none_of_le (Nat.le_trans hab (Nat.le_of_lt (Nat.lt_succ_of_lt hLlt)))
    · exact hn1
  case a4 =>
    intro q hq hm
    simp only [List.mem_cons, List.not_mem_nil, or_false] at hm
    have := hlt2 q hq
    rcases hm with e | e
    · exact Nat.ne_of_lt (Nat.lt_succ_of_lt this) e
    · exact Nat.ne_of_lt this e
  case a5 => exact ⟨⟨_, he⟩, hit, hyL.at fun o e => hk _ o e⟩
  case a6 => exact ⟨⟨rfl, rfl, rfl, rfl, rfl⟩, _, rfl⟩
  case a7 =>
    rintro i v0 v1 m₁ h tk own hi ⟨hi', ⟨ti, rfl⟩, hv⟩ ⟨hnm, tx, htx⟩ F₄ N₄
    obtain ⟨T, o, h1, h2, hcl, t, u, n, hd⟩ := hP.2.1 i (keys xs)[i] (by simp [hi'])
    rw [hv] at h1
    obtain rfl := Option.some.inj h1
    have hgd : (keys xs).getD i 0 = (keys xs)[i] := by rw [List.getD_eq_getElem?_getD, List.getElem?_eq_getElem hi']; rfl
    have N₅ : News h₀ L h (ledOf lt lm lp ln L qs zs ys us o₁ oc (tl ++ own)) := by
      intro q hq
      refine N₄ q ?_
      simp only [ledOf, List.mem_cons, List.mem_append] at hq ⊢
      rcases hq with e | e | e | e | e | e | e | e
      · exact .inr (.inl e)
      · exact .inr (.inr (.inl e))
      · exact .inr (.inr (.inr (.inl e)))
      · exact .inr (.inr (.inr (.inr (.inl e))))
      · exact .inr (.inr (.inr (.inr (.inr (.inl e)))))
      · exact .inr (.inr (.inr (.inr (.inr (.inr (.inl e))))))
      · exact .inr (.inr (.inr (.inr (.inr (.inr (.inr e))))))
      · exact .inl e
    have hTT : h.get? T = some o := (N₅ (T, o) (by simp [ledOf, h2])).1
    have hxl : (txt xs c p i).length ≤ 3 * i := txt_len xs c p i
    refine wpAny_execs_cons (wpAny_mono (turn1 (f := f) (cd := cd) (c := c) (x := txt xs c p i) G hh F₄ ⟨hnm.a, hnm.b, hnm.c, hnm.d, hnm.e⟩ rfl htx rfl (by omega) (by omega) hp24 hx (fun h' hg => ⟨t, u, by rw [hgd]; exact ⟨o, hg _ _ hTT, hcl, n, hd⟩⟩) N₅) (fun fl s₂ hm => ?_) fun _ _ e => e)
    obtain ⟨rfl, h₅, tk₅, m₅, t₅, rfl, F₅, N₆, hnm₅, hs₅, ht₅⟩ := hm
    refine wpAny_mono (turn2 (f := f) (cd := cd) (c := c) G hh hA F₅ hnm₅ hs₅ ht₅ (by rw [List.length_append]; show _ + 1 ≤ 1000; omega) hq N₆) (fun fl s₂ hm => ?_) fun _ _ e => e
    obtain ⟨rfl, h₆, tk₆, m₆, t₆, rfl, F₆, N₇, hnm₆, hs₆, ht₆⟩ := hm
    refine Turn.next F₆ ?_ ⟨hnm₆, t₆, ?_⟩
    · intro q hq
      refine N₇ q ?_
      simp only [ledOf, List.mem_cons, List.mem_append] at hq ⊢
      rcases hq with e | e | e | e | e | e | e | e
      · exact .inr (.inr (.inr (.inr (.inr (.inr (.inr e))))))
      · exact .inl e
      · exact .inr (.inl e)
      · exact .inr (.inr (.inl e))
      · exact .inr (.inr (.inr (.inl e)))
      · exact .inr (.inr (.inr (.inr (.inl e))))
      · exact .inr (.inr (.inr (.inr (.inr (.inl e)))))
      · exact .inr (.inr (.inr (.inr (.inr (.inr (.inl e))))))
    · rw [ht₆, txt_succ]
  case a8 =>
    rintro m₁ h tk ⟨hnm, tx, htx⟩ F₄ N₄
    rw [hlen] at htx
    exact next tx m₁ h tk F₄ hnm.b hnm.c hnm.d hnm.e htx N₄
end Mine
end
section
open PySem PySem.W PyProof.Rows PySem.Calls
set_option maxRecDepth 100000
set_option linter.unusedVariables false
namespace Mine
local macro_rules
  | `(tactic| walk_at "comp name") => `(tactic| (first
    | refine LCgL.ld_own (by assumption) (by news_mem) (by assumption) (by assumption) ?_
    | refine nm_built (by assumption) (Kept.out (by assumption)) (by boot_fast) ?_))
local macro_rules
  | `(tactic| walk_at "to comp name") => `(tactic| repeat ((fail_if_success (with_reducible show wpAny _ _ (eval (Expr.Name _ _) (compEnvC _ _ _ _)) _ _ _)); walk1))
local macro_rules
  | `(tactic| walk_at "to own") => `(tactic| repeat ((fail_if_success (with_reducible show wpAny _ _ (eval (.Call (.Name _ _) _ _ _) _) _ _ _)); walk1))
local macro_rules
  | `(tactic| walk_at "to call") => `(tactic| repeat ((fail_if_success (with_reducible show wpAny _ _ (call (.ref _) _) _ _ _)); walk1))
local macro_rules
  | `(tactic| walk_at "to len") => `(tactic| repeat ((fail_if_success (with_reducible show wpAny _ _ (call (.builtin "len") _) _ _ _)); walk1))
local macro_rules
  | `(tactic| walk_at "to chr") => `(tactic| repeat ((fail_if_success (with_reducible show wpAny _ _ (call (.builtin "chr") _) _ _ _)); walk1))
section
variable {prog : Program} {w : World} {A : Around} {E : Value → Shared → Prop} {s : Shared} {env : Env} {h₀ : Heap} {x : Str} {body : List Stmt} {Q : Flow → Shared → Prop}
theorem iter_listN {l : Addr} {o : Obj} {vs : Array Value} {k : Nat} {m₀ : Str → Option Value} {news : List (Addr × Obj)} (J : Nat → (Str → Option Value) → Prop)
    (hh : A.handled = none) (hm : (l, o) ∈ news) (hc : o.cls = .type "list") (hd : o.data = .seq vs k) (F : Fr h₀ env.locals s.heap m₀) (N : News h₀ env.locals s.heap news) (hj : J 0 m₀)
    (turn : ∀ i v m₁ h tk own, i < vs.size → vs[i]? = some v → J i m₁ → Fr h₀ env.locals h (fun y => if y = x then some v else m₁ y) → News h₀ env.locals h (own ++ news) →
      wpAny (model prog w) A (execs body env) (Turn h₀ env.locals (J (i + 1)) (own ++ news) { s with heap := h, toks := tk } fun v s' => Q (.ret v) s') E { s with heap := h, toks := tk })
    (done : ∀ m₁ h tk, J vs.size m₁ → Fr h₀ env.locals h m₁ → News h₀ env.locals h news → Q .next { s with heap := h, toks := tk }) :
    wpAny (model prog w) A (pyIter (.ref l)) (fun it s₂ => LoopAtV prog w A h₀ env x body Q E it s₂) E s := by
  have hls : s.heap.IsList l vs := ⟨o, (N _ hm).1, hc, k, hd⟩
  have hlt : l < s.heap.objs.size := Heap.lt_size (N _ hm).1
  refine wpAny_pyIter_list hls ?_
  refine loop_const J (Walks.list hh s.heap.objs.size l (Nat.ne_of_lt hlt) vs) ?_ ?_ ?_ ⟨⟨_, Heap.get?_push_size _ rfl, rfl, rfl⟩, hls.push _⟩ (F.push _) (fun p hp => ⟨Heap.get?_push_of_some _ (N p hp).1, (N p hp).2⟩) hj ?_ ?_
  · intro hb
    rcases List.mem_cons.mp hb with e | hb
    · exact Nat.ne_of_lt F.ns.lt e
    · exact (N _ hm).2.1 (List.mem_singleton.mp hb).symm
  · intro b hb
    rw [List.mem_singleton.mp hb]
    exact next_is_new F
  · intro p hp hI
    exact absurd (Heap.lt_size (N p hp).1) ((List.mem_singleton.mp hI) ▸ Nat.lt_irrefl _)
  · intro i v m₁ h tk own hi hP hJ F₁ N₁
    exact turn i v m₁ h tk own hi hP hJ F₁ N₁
  · intro m₁ h tk hJ F₁ N₁
    exact done m₁ h tk hJ F₁ N₁
end
def tailOf (c n : Nat) : List Nat := ((List.range 8).drop n).map fun j => 917504 + tagOf c j
set_option maxHeartbeats 4000000 in
theorem part8 {w : World} {A : Around} {s : Shared} {mg mb : Str → Option Value} {h₀ : Heap} {L f : Addr} {cd : Value} {RR : Flow → Shared → Prop} {m : Str → Option Value} {o₁ oc : Obj} {lt ln lp lm : Addr} {qs us ys zs tl} {n c : Nat} {p : Int} {tp tx : Tok} {x : List Nat}
    (G : GG w mg mb h₀) (hh : A.handled = none) (hA : A.depth + 2 < recursionLimit) (F : Fr h₀ L s.heap m) (hs1 : m "pieces" = some (.ref lp)) (hs2 : m "name" = some (.ref lm)) (hs3 : m "place" = some (.int p tp)) (hs4 : m "tags" = some (.ref lt)) (hs5 : m "text" = some (.str ⟨x.toArray⟩ tx)) (hxl : x.length ≤ 100)
    (hyl : ys.length = n) (hn24 : n ≤ 24) (hq : IntsAre qs ((List.range 8).map fun j => (tagOf c j : Int)))
    (N : News h₀ L s.heap ((lt, LCg.lst qs) :: (lm, LCg.lst zs) :: (lp, LCg.lst ys) :: (ln, LCg.lst us) :: (L + 2, o₁) :: (L + 1, oc) :: tl))
    (next : ∀ t m' h' tk, Fr h₀ L h' m' → m' "name" = some (.ref lm) → m' "place" = some (.int p tp) → m' "tags" = some (.ref lt) → m' "text" = some (.str ⟨(x ++ tailOf c n).toArray⟩ t) → News h₀ L h' ((lt, LCg.lst qs) :: (lm, LCg.lst zs) :: (lp, LCg.lst ys) :: (ln, LCg.lst us) :: (L + 2, o₁) :: (L + 1, oc) :: tl) → Part w A 9 L f cd RR { s with heap := h', toks := tk }) : Part w A 8 L f cd RR s := by
  have F₁ := Fr.over (Fr.over (Fr.over (Fr.over (Fr.over F (x := "text") hs5) (x := "pieces") hs1) (x := "name") hs2) (x := "place") hs3) (x := "tags") hs4
  clear F
  unfold Part
  conv => arg 3; arg 1; whnf
  have G0 : Kept (GG w mg mb h₀) := ⟨G⟩
  have hql : qs.length = 8 := by rw [hq.length]; simp
  have hq8 : (List.map (fun j => (tagOf c j : Int)) (List.range 8)).length ≤ 8 := by simp
  walk1
  refine For_invV h₀ rfl rfl ?_
  walk_at "to len"
  refine len_list ⟨_, (N _ (.tail _ (.tail _ (.head _)))).1, rfl, _, rfl⟩ (by rw [List.size_toArray, hyl]; omega) ?_
  rw [List.size_toArray, hyl]
  iterate 3 walk1
  (rename Fr _ _ _ _ => F₂); (rename News _ _ _ _ => N₂)
  have hsl := kmk_from (x := (n : Int)) hq (by omega)
  rw [Int.toNat_natCast, ← List.map_drop] at hsl
  have hszl : (slicePick qs.toArray (some (n : Int)) none none).size = (tailOf c n).length := by
    rw [intsAre_size hsl, List.length_map, tailOf, List.length_map]
  refine iter_listN (vs := slicePick qs.toArray (some (n : Int)) none none) (fun i m => m "name" = some (.ref lm) ∧ m "place" = some (.int p tp) ∧ m "tags" = some (.ref lt) ∧ ∃ t, m "text" = some (.str ⟨(x ++ (tailOf c n).take i).toArray⟩ t)) hh (.head _) rfl rfl F₂ N₂ ⟨rfl, rfl, rfl, _, by rw [List.take_zero, List.append_nil]; rfl⟩ ?_ ?_
  · rintro i v m₁ h tk own hi hv ⟨hj1, hj2, hj3, tj, hj⟩ F₃ N₃
    have F₄ := Fr.over (Fr.over (Fr.over (Fr.over F₃ (x := "text") hj) (x := "name") hj1) (x := "place") hj2) (x := "tags") hj3
    clear F₃ F₂ N₂
    obtain ⟨k, t, rfl, hk⟩ := IntsAre.at hsl i v (by simpa using hv)
    have hi' : i < ((List.range 8).drop n).length := by rw [hszl, tailOf, List.length_map] at hi; exact hi
    rw [List.getElem?_map, List.getElem?_eq_getElem hi'] at hk
    have hkj : (tagOf c ((List.range 8).drop n)[i] : Int) = k := Option.some.inj hk
    subst hkj
    have htl := tagOf_le c ((List.range 8).drop n)[i]
    have hlx : (x ++ (tailOf c n).take i).length ≤ 200 := by
      rw [List.length_append, List.length_take]
      have : (tailOf c n).length ≤ 8 := by rw [tailOf, List.length_map, List.length_drop]; simp
      omega
    walk_at "to chr"
    refine chr_nat (917504 + tagOf c ((List.range 8).drop n)[i]) (by omega) (by omega) ?_
    walk
    (rename Fr _ _ _ _ => F₅); (rename News _ _ _ _ => N₅)
    have e : x ++ (tailOf c n).take i ++ [917504 + tagOf c ((List.range 8).drop n)[i]] = x ++ (tailOf c n).take (i + 1) := by
      rw [List.take_add_one, List.append_assoc, show (tailOf c n)[i]? = some (917504 + tagOf c ((List.range 8).drop n)[i]) by rw [tailOf, List.getElem?_map, List.getElem?_eq_getElem hi']; rfl]
      rfl
    rw [app_sign, e] at F₅
    exact Turn.next F₅ N₅ ⟨rfl, rfl, rfl, _, rfl⟩
  · rintro m₁ h tk ⟨hj1, hj2, hj3, tj, hj⟩ F₃ N₃
    rw [hszl, List.take_length] at hj
    exact next tj m₁ h tk F₃ hj1 hj2 hj3 hj fun q hq => N₃ q (.tail _ hq)
end Mine
end
section
open PySem PySem.W PyProof.Rows PySem.Calls
set_option maxRecDepth 100000
set_option linter.unusedVariables false
namespace Mine
local macro_rules
  | `(tactic| walk_at "comp name") => `(tactic| (first
    | refine LCgL.ld_own (by assumption) (by news_mem) (by assumption) (by assumption) ?_
    | refine nm_built (by assumption) (Kept.out (by assumption)) (by boot_fast) ?_))
local macro_rules
  | `(tactic| walk_at "to comp name") => `(tactic| repeat ((fail_if_success (with_reducible show wpAny _ _ (eval (Expr.Name _ _) (compEnvC _ _ _ _)) _ _ _)); walk1))
local macro_rules
  | `(tactic| walk_at "to own") => `(tactic| repeat ((fail_if_success (with_reducible show wpAny _ _ (eval (.Call (.Name _ _) _ _ _) _) _ _ _)); walk1))
local macro_rules
  | `(tactic| walk_at "to call") => `(tactic| repeat ((fail_if_success (with_reducible show wpAny _ _ (call (.ref _) _) _ _ _)); walk1))
theorem assign_pair {prog : Program} {w : World} {A : Around} {E : Value → Shared → Prop} {s : Shared} {env : Env} {h₀ : Heap} {L : Addr} {xi xc : Str} {pk pv pt : Pos} {x1 : Nat} {T : Addr} {v0 v1 : Value} {m : Str → Option Value} {news : List (Addr × Obj)} {Q : Unit → Shared → Prop}
    (hh : A.handled = none) (hT : s.heap.IsTuple T #[v0, v1]) (F : Fr h₀ L s.heap m) (N : News h₀ L s.heap news) (hL : env.locals = L) (hxi : env.kindOf xi = some .local) (hxc : env.kindOf xc = some .local)
    (hp : (env.scope.kind == .class || (env.scope.kind == .module && env.locals != env.globals)) = false)
    (h : ∀ h' tk, Fr h₀ L h' (fun y => if y = xc then some v1 else if y = xi then some v0 else m y) → News h₀ L h' news → (∀ b o, b ≠ L → s.heap.get? b = some o → h'.get? b = some o) → Q () { s with heap := h', toks := tk }) :
    wpAny (model prog w) A (assign (.Tuple [.Name xi pk, .Name xc pv] x1 pt) env (.ref T)) Q E s := by
  subst hL
  refine wpAny_assign_Tuple hh hT rfl rfl fun h₃ hx₃ => ?_
  have up₃ : Grows s.heap h₃ := fun b o x => hx₃ b o (Nat.ne_of_lt (Heap.lt_size x)) x
  have F₃ := F.keeps up₃
  have N₃ := N.keeps up₃
  show wpAny _ A (do holding [v1] (assign (.Name xi pk) env v0); do holding [] (assign (.Name xc pv) env v1); pure ()) _ _ _
  refine wpAny_bind (wpAny_holding (wpAny_assign_Name (wpAny_storeName_local hxi F₃.ns (fun h₄ hn₄ hs₄ => ?_) hp)))
  replace hs₄ : Heap.SameBut env.locals h₃ h₄ := hs₄
  have F₄ := F₃.set hn₄ hs₄
  refine wpAny_bind (wpAny_holding (wpAny_assign_Name (wpAny_storeName_local hxc F₄.ns (fun h₅ hn₅ hs₅ => wpAny_pure ?_) hp)))
  replace hs₅ : Heap.SameBut env.locals h₄ h₅ := hs₅
  exact h h₅ _ (F₄.set hn₅ hs₅) ((N₃.set hs₄).set hs₅) fun b o hb e => hs₅.extBut b o hb (hs₄.extBut b o hb (up₃ b o e))
local macro_rules
  | `(tactic| walk_at "to execs") => `(tactic| repeat ((fail_if_success (with_reducible show wpAny _ _ (execs (.cons (.Assign _ _ _) _) _) _ _ _)); walk1))
local macro_rules
  | `(tactic| walk_at "to add") => `(tactic| repeat ((fail_if_success (with_reducible show wpAny _ _ (binaryOp .Add (.ref _) (.ref _)) _ _ _)); walk1))
theorem add_ints {prog : Program} {w : World} {A : Around} {E : Value → Shared → Prop} {s : Shared} {h₀ : Heap} {L : Addr} {m : Str → Option Value} {news : List (Addr × Obj)} {l b : Addr} {its its2 : Array Value} {ns ms : List Int} {Q : Value → Shared → Prop}
    (F : Fr h₀ L s.heap m) (N : News h₀ L s.heap news) (hl : s.heap.IsList l its) (hb : s.heap.IsList b its2) (hi : IntsAre its.toList ns) (hj : IntsAre its2.toList ms) (hsz : its.size + its2.size ≤ sizeLine)
    (h : ∀ D i3 h', Fr h₀ L h' m → News h₀ L h' ((D, ({ cls := .type "list", data := .seq i3 } : Obj)) :: news) → IntsAre i3.toList (ns ++ ms) → Q (.ref D) { s with heap := h' }) :
    wpAny (model prog w) A (binaryOp .Add (.ref l) (.ref b)) Q E s := by
  refine add_arrays F N hl hb (fun h' F' N' => h _ _ h' F' N' ?_) hsz
  exact intsAre_append hi hj
local macro_rules
  | `(tactic| walk_at "to ne") => `(tactic| repeat ((fail_if_success (with_reducible show wpAny _ _ (compareOp CmpOp.NotEq (.ref _) (.ref _)) _ _ _)); walk1))
set_option maxHeartbeats 4000000 in
theorem part9 {w : World} {A : Around} {s : Shared} {mg mb : Str → Option Value} {h₀ : Heap} {L f : Addr} {cd : Value} {RR : Flow → Shared → Prop} {m : Str → Option Value} {o₁ oc : Obj} {lt ln lp lm : Addr} {qs us ys zs tl} {p : Int} {tp tx : Tok} {x : List Nat} (mp : Nat → List Nat)
    (G : GG w mg mb h₀) (hh : A.handled = none) (hA : A.depth + 3 < recursionLimit) (F : Fr h₀ L s.heap m) (hs2 : m "name" = some (.ref lm)) (hs3 : m "place" = some (.int p tp)) (hs4 : m "tags" = some (.ref lt)) (hs5 : m "text" = some (.str ⟨x.toArray⟩ tx)) (hxl : x.length ≤ 1000)
    (hm : ∀ c ∈ x, c9L.contains (c : Int) = false → c7L.contains (c : Int) = false → b1L.contains (c : Int) = false → Maps mp c) (hmp : ∀ c, (mp c).length ≤ 4)
    (N : News h₀ L s.heap ((lt, LCg.lst qs) :: (lm, LCg.lst zs) :: (lp, LCg.lst ys) :: (ln, LCg.lst us) :: (L + 2, o₁) :: (L + 1, oc) :: tl))
    (next : ∀ lo lf oo of vo vf m' h' tk, Fr h₀ L h' m' → m' "name" = some (.ref lm) → m' "place" = some (.int p tp) → m' "tags" = some (.ref lt) → m' "octets" = some (.ref lo) → m' "figures" = some (.ref lf) → (oo.cls = .type "list" ∧ ∃ n, oo.data = .seq (List.toArray vo) n) → (of.cls = .type "list" ∧ ∃ n, of.data = .seq (List.toArray vf) n) →
       IntsAre vo (readAll mp x).1 → IntsAre vf (readAll mp x).2 → News h₀ L h' ((lo, oo) :: (lf, of) :: (lt, LCg.lst qs) :: (lm, LCg.lst zs) :: (L + 2, o₁) :: (L + 1, oc) :: tl) → Part w A 10 L f cd RR { s with heap := h', toks := tk }) : Part w A 9 L f cd RR s := by
  have F₁ := Fr.over (Fr.over (Fr.over (Fr.over F (x := "text") hs5) (x := "name") hs2) (x := "place") hs3) (x := "tags") hs4
  clear F
  unfold Part
  conv => arg 3; arg 1; whnf
  have G0 : Kept (GG w mg mb h₀) := ⟨G⟩
  walk_at "to own"
  refine own_callE (item 17) F₁ G0.out (by simp [defs]) (fun fa o hf ho => ?_) rfl rfl rfl rfl (by decide)
  walk_at "to call"
  refine read_call mp (G0.out.keeps F₁.keep) hf (by omega) hh hm hmp hxl fun T lo lf vo vf h' tk hk hT hlo hlf nlo nlf Io If => ?_
  obtain ⟨oo, hoo, hoc, hod⟩ := hlo
  obtain ⟨of, hof, hfc, hfd⟩ := hlf
  have F₂ := F₁.keeps hk
  have N₂ := news_new F₁ N hk nlf hof
  have N₃ := news_new F₁ N hk nlo hoo
  refine assign_pair hh hT (L := L) F₂ N₂ rfl rfl rfl rfl fun h₃ tk₃ F₃ N₄ hk₃ => ?_
  have hg₃ : h₃.get? lo = some oo := hk₃ _ _ (N₃ _ (.head _)).2.1 hoo
  refine next lo lf oo of vo.toList vf.toList _ h₃ tk₃ F₃ rfl rfl rfl rfl rfl ⟨hoc, by simpa using hod⟩ ⟨hfc, by simpa using hfd⟩ Io If ?_
  intro q hq
  rcases List.mem_cons.mp hq with rfl | hq
  · exact ⟨hg₃, (N₃ _ (.head _)).2⟩
  · refine N₄ q ?_
    simp only [List.mem_cons] at hq ⊢
    rcases hq with e | e | e | e | e | e
    · exact .inl e
    · exact .inr (.inl e)
    · exact .inr (.inr (.inl e))
    · exact .inr (.inr (.inr (.inr (.inr (.inl e)))))
    · exact .inr (.inr (.inr (.inr (.inr (.inr (.inl e))))))
    · exact .inr (.inr (.inr (.inr (.inr (.inr (.inr e))))))
set_option maxHeartbeats 4000000 in
theorem part10 {w : World} {A : Around} {s : Shared} {mg mb : Str → Option Value} {h₀ : Heap} {L f : Addr} {cd : Value} {RR : Flow → Shared → Prop} {m : Str → Option Value} {o₁ oc oo of : Obj} {lt lm lo lf : Addr} {qs zs vo vf tl} {p : Nat} {tp : Tok} {os ns gs : List Int}
    (G : GG w mg mb h₀) (hh : A.handled = none) (hA : A.depth + 3 < recursionLimit) (F : Fr h₀ L s.heap m) (hs2 : m "name" = some (.ref lm)) (hs3 : m "place" = some (.int (p : Int) tp)) (hs4 : m "tags" = some (.ref lt)) (hs5 : m "octets" = some (.ref lo)) (hs6 : m "figures" = some (.ref lf))
    (hoo : oo.cls = .type "list" ∧ ∃ n, oo.data = .seq (List.toArray vo) n) (hof : of.cls = .type "list" ∧ ∃ n, of.data = .seq (List.toArray vf) n) (Iz : IntsAre zs ns) (Iq : IntsAre qs gs) (Io : IntsAre vo os) (If : IntsAre vf gs)
    (hos : os = ns.take p ++ [-1, -1, -1, -1] ++ ns.drop (p + 4)) (hu : A.units + 64 < cLine) (hgl : gs.length ≤ 100) (hnl : ns.length ≤ 100) (hol : os.length ≤ 100) (hpl : p < 24)
    (N : News h₀ L s.heap ((lo, oo) :: (lf, of) :: (lt, LCg.lst qs) :: (lm, LCg.lst zs) :: (L + 2, o₁) :: (L + 1, oc) :: tl))
    (next : ∀ m' h' tk, Fr h₀ L h' m' → m' "name" = some (.ref lm) → m' "place" = some (.int (p : Int) tp) → m' "octets" = some (.ref lo) → News h₀ L h' ((lo, oo) :: (lf, of) :: (lt, LCg.lst qs) :: (lm, LCg.lst zs) :: (L + 2, o₁) :: (L + 1, oc) :: tl) → Part w A 11 L f cd RR { s with heap := h', toks := tk }) : Part w A 10 L f cd RR s := by
  have F₁ := Fr.over (Fr.over (Fr.over (Fr.over (Fr.over F (x := "figures") hs6) (x := "octets") hs5) (x := "name") hs2) (x := "place") hs3) (x := "tags") hs4
  clear F
  unfold Part
  conv => arg 3; arg 1; whnf
  have G0 : Kept (GG w mg mb h₀) := ⟨G⟩
  walk_at "to ne"
  refine ke_ne_ints (ns := gs) (ms := gs) ⟨_, (N _ (.tail _ (.head _))).1, hof.1, hof.2⟩ ⟨_, (N _ (.tail _ (.tail _ (.head _)))).1, rfl, _, rfl⟩ If Iq hu ?_
  rw [decide_eq_true rfl]
  walk_at "to add"
  (rename Fr _ _ _ _ => F₂); (rename News _ _ _ _ => N₂)
  have I1 := kmk_upto (y := (p : Int)) Iz (by omega)
  rw [Int.toNat_natCast] at I1
  have l1 := intsAre_size I1
  rw [List.length_take] at l1
  refine add_ints F₂ N₂ (its := slicePick zs.toArray none (some (p : Int)) none) ⟨_, (N₂ _ (.tail _ (.head _))).1, rfl, _, rfl⟩ ⟨_, (N₂ _ (.head _)).1, rfl, _, rfl⟩ I1 (.cons (-1) _ (.cons (-1) _ (.cons (-1) _ (.cons (-1) _ .nil)))) (Nat.le_trans (show _ ≤ 1000 by rw [l1]; show _ + 4 ≤ 1000; omega) (by decide)) fun D i2 h₃ F₃ N₃ I2 => ?_
  clear F₂ N₂
  have hzL : h₃.IsList lm zs.toArray := ⟨_, (N₃ (lm, LCg.lst zs) (by simp)).1, rfl, _, rfl⟩
  have hzl : zs.length = ns.length := Iz.length
  walk_at "to add"
  (rename Fr _ _ _ _ => F₄); (rename News _ _ _ _ => N₄)
  have I3 := kmk_from (x := (p : Int) + 4) Iz (by omega)
  rw [show ((p : Int) + 4).toNat = p + 4 by omega] at I3
  have l2 := intsAre_size I2
  have l3 := intsAre_size I3
  rw [List.length_drop] at l3
  rw [List.length_append, List.length_take] at l2
  refine add_ints F₄ N₄ (its := i2) (its2 := slicePick zs.toArray (some ((p : Int) + 4)) none none) ⟨_, (N₄ _ (.tail _ (.head _))).1, rfl, _, rfl⟩ ⟨_, (N₄ _ (.head _)).1, rfl, _, rfl⟩ I2 I3 (Nat.le_trans (show _ ≤ 1000 by rw [l2, l3]; show _ + 4 + _ ≤ 1000; omega) (by decide)) fun D' i3 h₅ F₅ N₅ I5 => ?_
  clear F₄ N₄
  rw [← hos] at I5
  refine ke_ne_ints (ns := os) (ms := os) (ys := i3.toList) ⟨_, (N₅ (lo, oo) (by simp)).1, hoo.1, hoo.2⟩ ⟨_, (N₅ _ (.head _)).1, rfl, _, rfl⟩ Io I5 hu ?_
  rw [decide_eq_true rfl]
  walk_at "to execs"
  refine next _ _ _ F₅ rfl rfl rfl fun q hq => N₅ q ?_
  exact .tail _ (.tail _ (.tail _ (.tail _ (.tail _ hq))))
end Mine
end
section
open PySem PySem.W PyProof.Rows PySem.Calls
set_option maxRecDepth 100000
set_option linter.unusedVariables false
namespace Mine
local macro_rules
  | `(tactic| walk_at "comp name") => `(tactic| (first
    | refine LCgL.ld_own (by assumption) (by news_mem) (by assumption) (by assumption) ?_
    | refine nm_built (by assumption) (Kept.out (by assumption)) (by boot_fast) ?_))
local macro_rules
  | `(tactic| walk_at "to comp name") => `(tactic| repeat ((fail_if_success (with_reducible show wpAny _ _ (eval (Expr.Name _ _) (compEnvC _ _ _ _)) _ _ _)); walk1))
local macro_rules
  | `(tactic| walk_at "to own") => `(tactic| repeat ((fail_if_success (with_reducible show wpAny _ _ (eval (.Call (.Name _ _) _ _ _) _) _ _ _)); walk1))
local macro_rules
  | `(tactic| walk_at "to call") => `(tactic| repeat ((fail_if_success (with_reducible show wpAny _ _ (call (.ref _) _) _ _ _)); walk1))
local macro_rules
  | `(tactic| walk_at "to For") => `(tactic| repeat ((fail_if_success (with_reducible show wpAny _ _ (exec (.For _ _ _ _ _) _) _ _ _)); walk1))
local macro_rules
  | `(tactic| walk_at "to iter") => `(tactic| repeat ((fail_if_success (with_reducible show wpAny _ _ (pyIter _) _ _ _)); walk1))
local macro_rules
  | `(tactic| walk_at "to sub") => `(tactic| repeat ((fail_if_success (with_reducible show wpAny _ _ (subscriptTail _ _ _ _) _ _ _)); walk1))
local macro_rules
  | `(tactic| walk_at "to name crc") => `(tactic| repeat ((fail_if_success (with_reducible show wpAny _ _ (eval (.Name (Str.ofString "crc") _) _) _ _ _)); walk1))
def endIter (e : Nat) (os : List Nat) : Nat := os.foldl (fun e o => backIter 8 e ^^^ o) e
theorem endIter_succ (e : Nat) (os : List Nat) (i : Nat) (h : i < os.length) : endIter e (os.take (i + 1)) = backIter 8 (endIter e (os.take i)) ^^^ os[i] := by
  unfold endIter
  rw [List.take_add_one, List.foldl_append, List.getElem?_eq_getElem h]
  rfl
theorem endIter_lt {e : Nat} (he : e < 2 ^ 32) : ∀ (os : List Nat), (∀ o ∈ os, o < 2 ^ 32) → endIter e os < 2 ^ 32 := by
  intro os
  induction os generalizing e with
  | nil => intro _; exact he
  | cons o os ih =>
    intro h
    exact ih (Nat.xor_lt_two_pow (backIter_lt he 8) (h o (.head _))) fun o' ho' => h o' (.tail _ ho')
set_option maxHeartbeats 4000000 in
theorem part11 {w : World} {A : Around} {s : Shared} {mg mb : Str → Option Value} {h₀ : Heap} {L f : Addr} {cd : Value} {RR : Flow → Shared → Prop} {m : Str → Option Value} {o₁ oc oo : Obj} {lm lo : Addr} {zs vo} {p c : Nat} {tp tc : Tok} {nm : List Nat}
    (G : GG w mg mb h₀) (hh : A.handled = none) (hA : A.depth + 3 < recursionLimit) (F : Fr h₀ L s.heap m) (hs2 : m "name" = some (.ref lm)) (hs3 : m "place" = some (.int (p : Int) tp)) (hs5 : m "octets" = some (.ref lo))
    (hoo : oo.cls = .type "list" ∧ ∃ n, oo.data = .seq (List.toArray vo) n) (hc : oc.data = .cell (some (.int (c : Int) tc))) (hcl : c < 2 ^ 32)
    (Io : IntsAre vo ((nm.take p).map (fun (n : Nat) => (n : Int)) ++ [-1, -1, -1, -1] ++ (nm.drop (p + 4)).map fun (n : Nat) => (n : Int))) (hnl : nm.length ≤ 100) (hpl : p + 4 ≤ nm.length) (h32 : ∀ n ∈ nm, n < 2 ^ 32)
    (N : News h₀ L s.heap [(L + 1, oc), (L + 2, o₁), (lo, oo), (lm, LCg.lst zs)])
    (next : ∀ la lb oa ob va vb te m' h' tk, Fr h₀ L h' m' → m' "name" = some (.ref lm) → m' "place" = some (.int (p : Int) tp) → m' "ahead" = some (.ref la) → m' "behind" = some (.ref lb) → m' "ending" = some (.int (endIter (c ^^^ 4294967295) (nm.drop (p + 4)).reverse : Nat) te) →
       (oa.cls = .type "list" ∧ ∃ n, oa.data = .seq (List.toArray va) n) → (ob.cls = .type "list" ∧ ∃ n, ob.data = .seq (List.toArray vb) n) → IntsAre va ((nm.take p).map fun (n : Nat) => (n : Int)) → IntsAre vb ((nm.drop (p + 4)).map fun (n : Nat) => (n : Int)) →
       News h₀ L h' [(L + 1, oc), (L + 2, o₁), (la, oa), (lb, ob), (lm, LCg.lst zs)] → Part w A 15 L f cd RR { s with heap := h', toks := tk }) : Part w A 11 L f cd RR s := by
  have F₁ := Fr.over (Fr.over (Fr.over F (x := "octets") hs5) (x := "name") hs2) (x := "place") hs3
  clear F
  unfold Part
  conv => arg 3; arg 1; whnf
  have G0 : Kept (GG w mg mb h₀) := ⟨G⟩
  have hvl : vo.length ≤ 104 := by
    rw [Io.length, List.length_append, List.length_append, List.length_map, List.length_map, List.length_take, List.length_drop]
    show _ + 4 + _ ≤ 104
    omega
  have hoL : s.heap.IsList lo vo.toArray := ⟨_, (N (lo, oo) (by simp)).1, hoo.1, hoo.2⟩
  have hsz : vo.toArray.size ≤ sizeLine := by rw [List.size_toArray]; exact Nat.le_trans hvl (by decide)
  walk_at "to sub"
  refine kmk_slice F₁ N hoL .none (.int _ _) (fun la h₁ F₂ N₂ _ => ?_) (by with_unfolding_all rfl) (by intro _; with_unfolding_all rfl) hsz
  clear F₁ N
  walk_at "to sub"
  (rename Fr _ _ _ _ => F₃); (rename News _ _ _ _ => N₃)
  refine kmk_slice F₃ N₃ ⟨_, (N₃ (lo, oo) (by simp)).1, hoo.1, hoo.2⟩ (.int _ _) .none (fun lb h₂ F₄ N₄ _ => ?_) (by with_unfolding_all rfl) (by intro _; with_unfolding_all rfl) hsz
  clear F₃ N₃
  have hcell : (L + 1, oc) ∈ [(lb, listOf (slicePick vo.toArray (some ((p : Int) + 4)) none none) 0), (la, listOf (slicePick vo.toArray none (some (p : Int)) none) 0), (L + 1, oc), (L + 2, o₁), (lo, oo), (lm, LCg.lst zs)] := by simp
  walk_at "to name crc"
  (rename Fr _ _ _ _ => F₅); (rename News _ _ _ _ => N₅)
  refine ldCN N₅ rfl hcell hc ?_
  walk_at "to For"
  (rename Fr _ _ _ _ => F₆); (rename News _ _ _ _ => N₆)
  have Ia := kmk_upto (y := (p : Int)) Io (by omega)
  have Ib := kmk_from (x := (p : Int) + 4) Io (by omega)
  have htl : (List.map (fun (n : Nat) => (n : Int)) (nm.take p)).length = p := by rw [List.length_map, List.length_take]; omega
  rw [Int.toNat_natCast, List.append_assoc, List.take_left' htl] at Ia
  rw [show ((p : Int) + 4).toNat = p + 4 by omega, List.drop_left' (by rw [List.length_append, htl]; rfl)] at Ib
  have hbl := intsAre_size Ib
  rw [List.length_map] at hbl
  rw [show Builtin.bitXor (c : Int) 4294967295 = ((c ^^^ 4294967295 : Nat) : Int) from bitXor_nat c 4294967295] at F₆
  generalize hva : slicePick vo.toArray none (some (p : Int)) none = va at Ia N₆
  generalize hvb : slicePick vo.toArray (some ((p : Int) + 4)) none none = vb at Ib N₆ hbl
  refine For_invV h₀ rfl rfl ?_
  walk_at "to sub"
  have hblt : vb.size ≤ 100 := by rw [hbl, List.length_drop]; omega
  refine kmk_slice3_lit F₆ N₆ (its := vb) ⟨_, (N₆ (lb, listOf vb 0) (by simp)).1, rfl, _, rfl⟩ .none .none (.int (-1) _) (by decide) (by rw [krv_pick]) (fun lr h₃ F₇ N₇ _ => ?_) (by with_unfolding_all rfl) (by intro _; with_unfolding_all rfl) (Nat.le_trans hblt (by decide))
  clear F₆ N₆
  have hrl : vb.toList.reverse.toArray.size = (nm.drop (p + 4)).reverse.length := by rw [List.size_toArray, List.length_reverse, Array.length_toList, hbl, List.length_reverse]
  have he0 : c ^^^ 4294967295 < 2 ^ 32 := Nat.xor_lt_two_pow hcl (by decide)
  have hrb : ∀ o ∈ (nm.drop (p + 4)).reverse, o < 2 ^ 32 := fun o ho => h32 o (List.mem_of_mem_drop (List.mem_reverse.mp ho))
  refine iter_listN (vs := vb.toList.reverse.toArray) (fun i m => m "name" = some (.ref lm) ∧ m "place" = some (.int (p : Int) tp) ∧ m "ahead" = some (.ref la) ∧ m "behind" = some (.ref lb) ∧ ∃ t, m "ending" = some (.int (endIter (c ^^^ 4294967295) ((nm.drop (p + 4)).reverse.take i) : Nat) t)) hh (.head _) rfl rfl F₇ N₇ ⟨rfl, rfl, rfl, rfl, _, rfl⟩ ?_ ?_
  · rintro i v m₁ h tk own hi hv ⟨hj1, hj2, hj3, hj4, tj, hj⟩ F₈ N₈
    have F₉ := Fr.over (Fr.over (Fr.over (Fr.over (Fr.over F₈ (x := "ending") hj) (x := "name") hj1) (x := "place") hj2) (x := "ahead") hj3) (x := "behind") hj4
    clear F₈ F₇ N₇
    have hi' : i < (nm.drop (p + 4)).reverse.length := by rw [← hrl]; exact hi
    have Ir : IntsAre vb.toList.reverse ((nm.drop (p + 4)).reverse.map fun (n : Nat) => (n : Int)) := by rw [List.map_reverse]; exact Ib.reverse
    obtain ⟨k, t, rfl, hk⟩ := IntsAre.at Ir i v (by simpa using hv)
    rw [List.getElem?_map, List.getElem?_eq_getElem hi'] at hk
    have hkj : ((nm.drop (p + 4)).reverse[i] : Int) = k := Option.some.inj hk
    subst hkj
    have hlt := endIter_lt he0 ((nm.drop (p + 4)).reverse.take i) fun o ho => hrb o (List.mem_of_mem_take ho)
    walk_at "to own"
    refine own_callE (item 16) F₉ G0.out (by simp [defs]) (fun fa o hf ho => ?_) rfl rfl rfl rfl (by decide)
    walk_at "to call"
    refine back_call (many := 8) (G0.out.keeps F₉.keep) hf (by omega) hh (by decide) hlt fun t h' tk hgr => ?_
    have F₁₀ := F₉.keeps hgr
    have N₁₀ := N₈.keeps hgr
    clear F₉ N₈
    walk
    (rename Fr _ _ _ _ => F₁₁); (rename News _ _ _ _ => N₁₁)
    rw [bitXor_nat, ← endIter_succ _ _ _ hi'] at F₁₁
    exact Turn.next F₁₁ N₁₁ ⟨rfl, rfl, rfl, rfl, _, rfl⟩
  · rintro m₁ h tk ⟨hj1, hj2, hj3, hj4, tj, hj⟩ F₈ N₈
    rw [hrl, List.take_length] at hj
    refine next la lb (listOf va 0) (listOf vb 0) va.toList vb.toList tj m₁ h tk F₈ hj1 hj2 hj3 hj4 hj ⟨rfl, 0, rfl⟩ ⟨rfl, 0, rfl⟩ Ia Ib fun q hq => N₈ q ?_
    simp only [List.mem_cons, List.not_mem_nil, or_false] at hq ⊢
    rcases hq with e | e | e | e | e
    · exact .inr (.inr (.inr (.inl e)))
    · exact .inr (.inr (.inr (.inr (.inl e))))
    · exact .inr (.inr (.inl e))
    · exact .inr (.inl e)
    · exact .inr (.inr (.inr (.inr (.inr (.inr e)))))
end Mine
end
section
open PySem PySem.W PyProof.Rows PySem.Calls
set_option maxRecDepth 100000
set_option linter.unusedVariables false
namespace Mine
local macro_rules
  | `(tactic| walk_at "comp name") => `(tactic| (first
    | refine LCgL.ld_own (by assumption) (by news_mem) (by assumption) (by assumption) ?_
    | refine nm_built (by assumption) (Kept.out (by assumption)) (by boot_fast) ?_))
local macro_rules
  | `(tactic| walk_at "to comp name") => `(tactic| repeat ((fail_if_success (with_reducible show wpAny _ _ (eval (Expr.Name _ _) (compEnvC _ _ _ _)) _ _ _)); walk1))
local macro_rules
  | `(tactic| walk_at "to own") => `(tactic| repeat ((fail_if_success (with_reducible show wpAny _ _ (eval (.Call (.Name _ _) _ _ _) _) _ _ _)); walk1))
local macro_rules
  | `(tactic| walk_at "to call") => `(tactic| repeat ((fail_if_success (with_reducible show wpAny _ _ (call (.ref _) _) _ _ _)); walk1))
local macro_rules
  | `(tactic| walk_at "to sub") => `(tactic| repeat ((fail_if_success (with_reducible show wpAny _ _ (subscriptTail _ _ _ _) _ _ _)); walk1))
local macro_rules
  | `(tactic| walk_at "to ne") => `(tactic| repeat ((fail_if_success (with_reducible show wpAny _ _ (compareOp CmpOp.NotEq (.ref _) (.ref _)) _ _ _)); walk1))
local macro_rules
  | `(tactic| walk_at "to add") => `(tactic| repeat ((fail_if_success (with_reducible show wpAny _ _ (binaryOp .Add (.ref _) (.ref _)) _ _ _)); walk1))
local macro_rules
  | `(tactic| walk_at "to name crc") => `(tactic| repeat ((fail_if_success (with_reducible show wpAny _ _ (eval (.Name (Str.ofString "crc") _) _) _ _ _)); walk1))
local macro_rules
  | `(tactic| walk_at "to name lost") => `(tactic| repeat ((fail_if_success (with_reducible show wpAny _ _ (eval (.Name (Str.ofString "lost") _) _) _ _ _)); walk1))
theorem nats_of {vs : List Value} {ns : List Nat} (h : IntsAre vs (ns.map fun (n : Nat) => (n : Int))) : NatsAre vs ns := by
  have hl : vs.length = ns.length := by rw [h.length, List.length_map]
  refine ⟨hl, fun i n hn => ?_⟩
  have hi : i < vs.length := by rw [hl]; exact (List.getElem?_eq_some_iff.mp hn).1
  obtain ⟨k, t, hv, hk⟩ := IntsAre.at h i vs[i] (List.getElem?_eq_getElem hi)
  rw [List.getElem?_map, hn] at hk
  obtain rfl := Option.some.inj hk
  exact ⟨t, by rw [List.getElem?_eq_getElem hi, hv]⟩
abbrev IsL (o : Obj) (vs : List Value) : Prop := o.cls = .type "list" ∧ ∃ n, o.data = .seq (List.toArray vs) n
set_option maxHeartbeats 4000000 in
theorem part15 {w : World} {A : Around} {s : Shared} {mg mb : Str → Option Value} {h₀ : Heap} {L f : Addr} {cd : Value} {RR : Flow → Shared → Prop} {m : Str → Option Value} {o₁ oc oa ob : Obj} {lm la lb : Addr} {zs va vb} {p e : Nat} {tp te : Tok} {ah : List Nat}
    (G : GG w mg mb h₀) (hh : A.handled = none) (hA : A.depth + 3 < recursionLimit) (F : Fr h₀ L s.heap m) (hs2 : m "name" = some (.ref lm)) (hs3 : m "place" = some (.int (p : Int) tp)) (hs5 : m "ahead" = some (.ref la)) (hs6 : m "behind" = some (.ref lb)) (hs7 : m "ending" = some (.int (e : Int) te))
    (hoa : IsL oa va) (hob : IsL ob vb) (hc1 : o₁.data = .cell none) (hc : ∃ v, oc.data = .cell v) (he : e < 2 ^ 32) (Ia : IntsAre va (ah.map fun (n : Nat) => (n : Int)))
    (N : News h₀ L s.heap [(L + 1, oc), (L + 2, o₁), (la, oa), (lb, ob), (lm, LCg.lst zs)])
    (next : ∀ ol t m' h' tk, ol.data = .cell (some (.int ((along 4294967295 ah ^^^ backIter 32 e : Nat) : Int) t)) → Fr h₀ L h' m' → m' "name" = some (.ref lm) → m' "place" = some (.int (p : Int) tp) → m' "ahead" = some (.ref la) → m' "behind" = some (.ref lb) →
       News h₀ L h' [(L + 1, oc), (L + 2, ol), (la, oa), (lb, ob), (lm, LCg.lst zs)] → Part w A 16 L f cd RR { s with heap := h', toks := tk }) : Part w A 15 L f cd RR s := by
  have F₁ := Fr.over (Fr.over (Fr.over (Fr.over (Fr.over F (x := "ending") hs7) (x := "name") hs2) (x := "place") hs3) (x := "behind") hs6) (x := "ahead") hs5
  clear F
  unfold Part
  conv => arg 3; arg 1; whnf
  have G0 : Kept (GG w mg mb h₀) := ⟨G⟩
  walk_at "to own"
  refine own_callE (item 18) F₁ G0.out (by simp [defs]) (fun fa o hf ho => ?_) rfl rfl rfl rfl (by decide)
  walk_at "to call"
  refine along_call (r := 4294967295) (vs := va) (G0.out.keeps F₁.keep) hf (by omega) hh ⟨_, (N (la, oa) (by simp)).1, hoa⟩ (nats_of Ia) fun t h' tk hgr => ?_
  have F₂ := F₁.keeps hgr
  have N₂ := N.keeps hgr
  clear F₁ N
  walk_at "to own"
  refine own_callE (item 16) F₂ G0.out (by simp [defs]) (fun fa o hf ho => ?_) rfl rfl rfl rfl (by decide)
  walk_at "to call"
  refine back_call (many := 32) (G0.out.keeps F₂.keep) hf (by omega) hh (by decide) he fun t h' tk hgr => ?_
  have F₃ := F₂.keeps hgr
  have N₃ := N₂.keeps hgr
  clear F₂ N₂
  walk1
  rw [bitXor_nat]
  refine stCN (own := [(L + 1, oc)]) F₃ N₃ rfl hc1 ?_ ?_ ?_
  · intro q hq
    rw [List.mem_singleton.mp hq]
    exact (Nat.succ_ne_self _).symm
  · intro q hq
    simp only [List.mem_cons, List.not_mem_nil, or_false] at hq
    obtain ⟨n1, hd1⟩ := hoa.2
    obtain ⟨n2, hd2⟩ := hob.2
    rcases hq with rfl | rfl | rfl
    · exact ne_cell N₃ (by simp) (by simp) hc1 (fun v e => by rw [show (la, oa).2.data = _ from hd1] at e; cases e)
    · exact ne_cell N₃ (by simp) (by simp) hc1 (fun v e => by rw [show (lb, ob).2.data = _ from hd2] at e; cases e)
    · exact ne_cell N₃ (by simp) (by simp) hc1 (fun v e => by cases e)
  · intro h'' ol F₆ N₆ hol
    exact next ol _ _ _ _ hol F₆ rfl rfl rfl rfl N₆
set_option maxHeartbeats 4000000 in
theorem part16 {w : World} {A : Around} {s : Shared} {mg mb : Str → Option Value} {h₀ : Heap} {L f : Addr} {cd : Value} {RR : Flow → Shared → Prop} {m : Str → Option Value} {ol oc oa ob : Obj} {lm la lb : Addr} {zs va vb} {p c lost : Nat} {tp tc tl : Tok} {ah bh nm : List Nat}
    (G : GG w mg mb h₀) (hh : A.handled = none) (hA : A.depth + 3 < recursionLimit) (hu : A.units + 64 < cLine) (F : Fr h₀ L s.heap m) (hs2 : m "name" = some (.ref lm)) (hs3 : m "place" = some (.int (p : Int) tp)) (hs5 : m "ahead" = some (.ref la)) (hs6 : m "behind" = some (.ref lb))
    (hoa : IsL oa va) (hob : IsL ob vb) (hol : ol.data = .cell (some (.int (lost : Int) tl))) (hc : oc.data = .cell (some (.int (c : Int) tc))) (Ia : IntsAre va (ah.map fun (n : Nat) => (n : Int))) (Ib : IntsAre vb (bh.map fun (n : Nat) => (n : Int))) (Iz : IntsAre zs (nm.map fun (n : Nat) => (n : Int)))
    (hlost : lost < 2 ^ 32) (hfound : ((List.range 4).map fun j => lost >>> (8 * j) &&& 255) = (nm.drop p).take 4) (hjoin : nm = ah ++ (nm.drop p).take 4 ++ bh) (hcrc : along 4294967295 nm ^^^ 4294967295 = c) (hnl : nm.length ≤ 100) (hpl : p + 4 ≤ nm.length)
    (N : News h₀ L s.heap [(L + 1, oc), (L + 2, ol), (la, oa), (lb, ob), (lm, LCg.lst zs)]) (hP : Post h₀ s RR) : Part w A 16 L f cd RR s := by
  have F₁ := Fr.over (Fr.over (Fr.over (Fr.over F (x := "name") hs2) (x := "place") hs3) (x := "behind") hs6) (x := "ahead") hs5
  clear F
  unfold Part
  conv => arg 3; arg 1; whnf
  have G0 : Kept (GG w mg mb h₀) := ⟨G⟩
  refine wpAny_execs_cons (LCg.Assign_ListComp_U (F₀ := F₁) (cl := [(Str.ofString "lost", L + 2)]) rfl (by with_unfolding_all rfl) rfl (by decide) rfl (by decide) rfl rfl rfl ?_)
  iterate 7 walk1
  (rename Fr _ _ _ _ => F₂); (rename News _ _ _ _ => N₂); (rename IsRange _ _ _ _ _ _ _ _ => hr)
  refine LCg.CompSrc.range (n := 4) hh F₂ N₂ hr (by decide) (by decide) (by decide) fun g => ?_
  refine comp_inv (fun i qs nw => nw = _ ∧ IntsAre qs ((List.range i).map fun j => ((lost >>> (8 * j) &&& 255 : Nat) : Int))) ⟨rfl, .nil⟩ ?_ ?_
  · rintro i qs nw v I oI C oC D m₂ h tk E' hi ⟨rfl, hqs⟩ ⟨t, rfl⟩ hC hxv F₃ N₃ off ne
    have hcell : h.IsCell (L + 2) (some (.int (lost : Int) tl)) := ⟨ol, (N₃ (L + 2, ol) (by simp)).1, hol⟩
    walk_at "to comp name"
    refine ldCellK rfl hcell ?_
    walk_at "to comp name"
    walk_at "comp name"
    walk
    refine comp_end (by assumption) (by assumption) off True.intro ⟨rfl, ?_⟩
    rw [List.range_succ, List.map_append]
    refine intsAre_append hqs ?_
    have e : Builtin.bitAnd ((lost : Int).fdiv (2 ^ ((8 : Int) * (0 + (i : Int))).toNat)) 255 = ((lost >>> (8 * i) &&& 255 : Nat) : Int) := by
      rw [show ((8 : Int) * (0 + (i : Int))).toNat = 8 * i by omega, fdiv_pow_nat]
      exact bitAnd_nat _ 255
    rw [e]
    exact .cons _ _ .nil
  · rintro qs nw ⟨rfl, hqs⟩
    intro lfd h tk F₃ N₃ o1
    have hqs' : IntsAre qs (((nm.drop p).take 4).map fun (n : Nat) => (n : Int)) := by
      rw [← hfound, List.map_map]; exact hqs
    have N₄ : News h₀ L h [(L + 2, ol), (L + 1, oc), (lfd, LCg.lst qs), (la, oa), (lb, ob), (lm, LCg.lst zs)] := fun q hq => N₃ q (by
      simp only [List.mem_cons, List.not_mem_nil, or_false] at hq ⊢
      rcases hq with e | e | e | e | e | e
      · exact .inr (.inr (.inl e))
      · exact .inr (.inl e)
      · exact .inl e
      · exact .inr (.inr (.inr (.inl e)))
      · exact .inr (.inr (.inr (.inr (.inl e))))
      · exact .inr (.inr (.inr (.inr (.inr e)))))
    clear N₃ F₂ N₂
    have hz0 : (lost : Int).fdiv (2 ^ Int.toNat 32) = 0 := by
      have q := fdiv_pow_nat lost 32
      rw [show lost >>> 32 = 0 by rw [Nat.shiftRight_eq_div_pow]; exact Nat.div_eq_of_lt hlost] at q
      exact q
    walk_at "to name lost"
    refine ldCN N₄ rfl (.head _) hol ?_
    iterate 4 walk1
    rw [hz0, show ((0 : Int) != 0) = false from rfl]
    have hzl : zs.length = nm.length := by rw [Iz.length, List.length_map]
    walk_at "to sub"
    refine kmk_slice F₃ N₄ (its := zs.toArray) ⟨_, (N₄ (lm, LCg.lst zs) (by simp)).1, rfl, _, rfl⟩ (.int _ _) (.int _ _) (fun lz h₁ F₅ N₅ _ => ?_) (by with_unfolding_all rfl) (by intro _; with_unfolding_all rfl) (by rw [List.size_toArray, hzl]; exact Nat.le_trans hnl (by decide))
    clear F₃ N₄
    have Is := kmk_run (x := (p : Int)) (y := (p : Int) + 4) Iz (by omega) (by omega)
    rw [Int.toNat_natCast, show ((p : Int) + 4).toNat = p + 4 by omega, List.length_map, show min (p + 4) nm.length - p = 4 by omega, ← List.map_drop, ← List.map_take] at Is
    refine ke_ne_ints (xs := qs) (ys := (slicePick zs.toArray (some (p : Int)) (some ((p : Int) + 4)) none).toList) ⟨_, (N₅ (lfd, LCg.lst qs) (by simp)).1, rfl, _, rfl⟩ ⟨_, (N₅ _ (.head _)).1, rfl, _, rfl⟩ hqs' Is hu ?_
    rw [decide_eq_true rfl]
    walk_at "to own"
    have hal : ah.length ≤ 100 := by
      have := congrArg List.length hjoin
      rw [List.length_append, List.length_append] at this; omega
    have hbl : bh.length ≤ 100 := by
      have := congrArg List.length hjoin
      rw [List.length_append, List.length_append] at this; omega
    refine own_callE (item 18) F₅ G0.out (by simp [defs]) (fun fa o hf ho => ?_) rfl rfl rfl rfl (by decide)
    walk_at "to add"
    have la' := intsAre_size (its := va.toArray) Ia
    have lb' := intsAre_size (its := vb.toArray) Ib
    have lq' := intsAre_size (its := qs.toArray) hqs'
    rw [List.length_map] at la' lb' lq'
    have h4 : ((nm.drop p).take 4).length ≤ 4 := by rw [List.length_take]; exact Nat.min_le_left _ _
    refine add_ints F₅ N₅ (its := va.toArray) (its2 := qs.toArray) ⟨_, (N₅ (la, oa) (by simp)).1, hoa⟩ ⟨_, (N₅ (lfd, LCg.lst qs) (by simp)).1, rfl, _, rfl⟩ Ia hqs' (Nat.le_trans (show _ ≤ 1000 by rw [la', lq']; omega) (by decide)) fun D i3 h₃ F₆ N₆ I6 => ?_
    clear F₅ N₅
    have l6 := intsAre_size I6
    rw [List.length_append, List.length_map, List.length_map] at l6
    walk_at "to add"
    refine add_ints F₆ N₆ (its := i3) (its2 := vb.toArray) ⟨_, (N₆ _ (.head _)).1, rfl, _, rfl⟩ ⟨_, (N₆ (lb, ob) (by simp)).1, hob⟩ I6 Ib (Nat.le_trans (show _ ≤ 1000 by rw [l6, lb']; omega) (by decide)) fun D' i4 h₄ F₇ N₇ I7 => ?_
    clear F₆ N₆
    rw [← List.map_append, ← List.map_append, ← hjoin] at I7
    walk_at "to call"
    refine along_call (r := 4294967295) (vs := i4.toList) (G0.out.keeps F₇.keep) hf (by omega) hh ⟨_, (N₇ _ (.head _)).1, rfl, _, rfl⟩ (nats_of I7) fun t h' tk hgr => ?_
    have F₈ := F₇.keeps hgr
    have N₈ := N₇.keeps hgr
    clear F₇ N₇
    walk_at "to name crc"
    refine ldCN N₈ rfl (by simp) hc ?_
    rw [show Builtin.bitXor ((along 4294967295 nm : Nat) : Int) 4294967295 = ((along 4294967295 nm ^^^ 4294967295 : Nat) : Int) from bitXor_nat _ 4294967295, hcrc]
    walk
    have hb : ((c : Int) == (c : Int)) = true := beq_self_eq_true _
    rw [hb]
    exact hP _ _ F₈.keep
end Mine
end
section
open PySem PySem.W PyProof.Rows PySem.Calls
set_option maxRecDepth 100000
set_option linter.unusedVariables false
namespace Mine
theorem tb_odd (n i : Nat) : (n >>> i) % 2 = 1 ↔ n.testBit i = true := by
  rw [Nat.testBit_eq_decide_div_mod_eq, Nat.shiftRight_eq_div_pow, decide_eq_true_eq]
theorem tb_one (k j : Nat) : (1 <<< k).testBit j = decide (j = k) := by
  rw [Nat.testBit_shiftLeft]
  by_cases h : j = k
  · subst h; simp
  · rw [decide_eq_false h]
    by_cases hk : k ≤ j
    · have : j - k ≠ 0 := by omega
      have hf : Nat.testBit 1 (j - k) = false := by
        rw [← Bool.not_eq_true]; exact fun e => this (Nat.testBit_one_eq_true_iff_self_eq_zero.mp e)
      rw [hf]; simp
    · simp [hk]
theorem flip_bit (n many : Nat) : ∀ i, i ≤ many → ∀ j, j < many → (flipI n many i).testBit j = (decide (many - 1 - j < i) && n.testBit (many - 1 - j))
  | 0, _, j, _ => by simp [flipI]
  | i + 1, hi, j, hj => by
    have ih := flip_bit n many i (by omega) j hj
    have key : (flipI n many (i + 1)).testBit j = ((flipI n many i).testBit j || (n.testBit i && decide (j = many - 1 - i))) := by
      rw [show flipI n many (i + 1) = if (n >>> i) % 2 = 1 then flipI n many i ||| 1 <<< (many - 1 - i) else flipI n many i from rfl]
      split
      · rename_i h
        rw [(tb_odd n i).mp h, Nat.testBit_or, tb_one]; simp
      · rename_i h
        have hf : n.testBit i = false := by rw [← Bool.not_eq_true]; exact fun e => h ((tb_odd n i).mpr e)
        rw [hf]; simp
    rw [key, ih]
    by_cases h1 : many - 1 - j = i
    · have h2 : j = many - 1 - i := by omega
      rw [decide_eq_true h2, h1, decide_eq_false (Nat.lt_irrefl i), decide_eq_true (Nat.lt_succ_self i)]
      simp
    · have h2 : ¬ j = many - 1 - i := by omega
      rw [decide_eq_false h2]
      by_cases h3 : many - 1 - j < i
      · rw [decide_eq_true h3, decide_eq_true (by omega : many - 1 - j < i + 1)]; simp
      · rw [decide_eq_false h3, decide_eq_false (by omega : ¬ many - 1 - j < i + 1)]; simp
theorem flip_all (n many j : Nat) (hj : j < many) : (flipI n many many).testBit j = n.testBit (many - 1 - j) := by
  rw [flip_bit n many many (Nat.le_refl _) j hj, decide_eq_true (by omega)]; simp
/-- the octets, the first lowest -/
def le (cs : List Nat) : Nat := match cs with
  | [] => 0
  | c :: cs => c ^^^ (le cs <<< 8)
theorem le_lt : ∀ cs : List Nat, (∀ c ∈ cs, c < 256) → le cs < 2 ^ (8 * cs.length)
  | [], _ => by simp [le]
  | c :: cs, h => by
    have ih := le_lt cs fun x hx => h x (.tail _ hx)
    have hc := h c (.head _)
    unfold le
    refine Nat.xor_lt_two_pow (Nat.lt_of_lt_of_le hc ?_) ?_
    · exact Nat.pow_le_pow_right (n := 2) (i := 8) (by decide) (by rw [List.length_cons]; omega)
    · rw [Nat.shiftLeft_eq, List.length_cons, Nat.mul_add, Nat.pow_add]
      exact Nat.mul_lt_mul_of_pos_right ih (by decide)
theorem natOf_snoc (cs : List Nat) (c : Nat) : natOf (cs ++ [c]) = natOf cs <<< 8 ||| flipI c 8 8 := by
  unfold natOf; rw [List.foldl_append]; rfl
theorem le_snoc : ∀ (cs : List Nat) (c : Nat), le (cs ++ [c]) = le cs ^^^ (c <<< (8 * cs.length))
  | [], c => by simp [le]
  | d :: cs, c => by
    have ih := le_snoc cs c
    rw [List.cons_append]
    unfold le
    rw [ih, Nat.shiftLeft_xor_distrib, ← Nat.xor_assoc, ← Nat.shiftLeft_add]
    rfl
theorem snoc_ind {P : List Nat → Prop} (h0 : P []) (h1 : ∀ l a, P l → P (l ++ [a])) (l : List Nat) : P l := by
  have key : ∀ l : List Nat, P l.reverse := by
    intro l
    induction l with
    | nil => exact h0
    | cons a l ih => rw [List.reverse_cons]; exact h1 _ _ ih
  have := key l.reverse
  rwa [List.reverse_reverse] at this
theorem nat_le : ∀ (cs : List Nat), (∀ c ∈ cs, c < 256) → ∀ j, j < 8 * cs.length → (natOf cs).testBit (8 * cs.length - 1 - j) = (le cs).testBit j := by
  refine snoc_ind ?_ ?_
  · intro _ j hj; simp at hj
  · intro cs c ih h j hj
    have hc : c < 256 := h c (by simp)
    have hcs : ∀ x ∈ cs, x < 256 := fun x hx => h x (by simp [hx])
    rw [List.length_append, List.length_singleton] at hj ⊢
    rw [natOf_snoc, le_snoc, Nat.testBit_or, Nat.testBit_xor, Nat.testBit_shiftLeft, Nat.testBit_shiftLeft]
    by_cases hlt : j < 8 * cs.length
    · have e1 : ¬ j ≥ 8 * cs.length := by omega
      have e2 : (8 * (cs.length + 1) - 1 - j) ≥ 8 := by omega
      have e3 : (flipI c 8 8).testBit (8 * (cs.length + 1) - 1 - j) = false := Nat.testBit_lt_two_pow (Nat.lt_of_lt_of_le (flipI_lt c 8 8 (Nat.le_refl _)) (Nat.pow_le_pow_right (by decide) e2))
      rw [decide_eq_false e1, decide_eq_true e2, e3, show 8 * (cs.length + 1) - 1 - j - 8 = 8 * cs.length - 1 - j by omega, ih hcs j hlt]
      simp
    · have e1 : j ≥ 8 * cs.length := by omega
      have e2 : ¬ (8 * (cs.length + 1) - 1 - j) ≥ 8 := by omega
      have e3 : (le cs).testBit j = false := Nat.testBit_lt_two_pow (Nat.lt_of_lt_of_le (le_lt cs hcs) (Nat.pow_le_pow_right (by decide) e1))
      rw [decide_eq_true e1, decide_eq_false e2, e3, flip_all c 8 _ (by omega), show 8 - 1 - (8 * (cs.length + 1) - 1 - j) = j - 8 * cs.length by omega]
      simp
theorem poly_bits : ∀ k, k < 33 → 1 ≤ k → Nat.testBit 4374732215 (32 - k) = Nat.testBit 3988292384 (k - 1) := by decide
theorem gen_bit (x k : Nat) : (genStep x).testBit k = (x.testBit (k + 1) ^^ (x.testBit 0 && Nat.testBit 3988292384 k)) := by
  unfold genStep
  have h0 : x % 2 = 1 ↔ x.testBit 0 = true := by have := tb_odd x 0; rwa [Nat.shiftRight_zero] at this
  split
  · rename_i h
    rw [h0.mp h, Nat.testBit_xor, Nat.testBit_shiftRight, Nat.add_comm]; simp
  · rename_i h
    have hf : x.testBit 0 = false := by rw [← Bool.not_eq_true]; exact fun e => h (h0.mpr e)
    rw [hf, Nat.testBit_shiftRight, Nat.add_comm]; simp
/-- the division, mirrored, is the register's run -/
theorem div_gen (M n x : Nat) (h0 : ∀ j, j < M + 32 → n.testBit (M + 31 - j) = x.testBit j) : ∀ t, t ≤ M → ∀ j, j < M + 32 → (divIter M n t).testBit (M + 31 - j) = (genIter t x <<< t).testBit j
  | 0, _, j, hj => by rw [Nat.shiftLeft_zero]; exact h0 j hj
  | t + 1, ht, j, hj => by
    have ih := div_gen M n x h0 t (by omega)
    show (divStep (divIter M n t) (M + 31 - t)).testBit (M + 31 - j) = (genStep (genIter t x) <<< (t + 1)).testBit j
    have hbit := ih t (by omega)
    have ihj := ih j hj
    rw [Nat.testBit_shiftLeft, decide_eq_true (Nat.le_refl t), Nat.sub_self, Bool.true_and] at hbit
    rw [Nat.testBit_shiftLeft] at ihj
    generalize genIter t x = y at *
    generalize divIter M n t = N at *
    have hN : (divStep N (M + 31 - t)).testBit (M + 31 - j) = (N.testBit (M + 31 - j) ^^ (y.testBit 0 && (decide (j ≤ t + 32) && Nat.testBit 4374732215 (32 + t - j)))) := by
      unfold divStep
      split
      · rename_i h
        rw [← hbit, (tb_odd _ _).mp h, Nat.testBit_xor, Nat.testBit_shiftLeft, Bool.true_and]
        by_cases hle : j ≤ t + 32
        · rw [decide_eq_true hle, decide_eq_true (by omega : M + 31 - j ≥ M + 31 - t - 32), show M + 31 - j - (M + 31 - t - 32) = 32 + t - j by omega]
        · rw [decide_eq_false hle, decide_eq_false (by omega : ¬ M + 31 - j ≥ M + 31 - t - 32)]; simp
      · rename_i h
        have hf : N.testBit (M + 31 - t) = false := by rw [← Bool.not_eq_true]; exact fun e => h ((tb_odd _ _).mpr e)
        rw [← hbit, hf]; simp
    rw [hN, ihj, Nat.testBit_shiftLeft]
    rcases Nat.lt_trichotomy j t with h | h | h
    · have e3 : Nat.testBit 4374732215 (32 + t - j) = false := Nat.testBit_lt_two_pow (Nat.lt_of_lt_of_le (by decide : 4374732215 < 2 ^ 33) (Nat.pow_le_pow_right (by decide) (by omega)))
      rw [decide_eq_false (by omega : ¬ j ≥ t), decide_eq_false (by omega : ¬ j ≥ t + 1), e3]; simp
    · subst h
      rw [decide_eq_true (Nat.le_refl j), decide_eq_false (by omega : ¬ j ≥ j + 1), Nat.sub_self, show 32 + j - j = 32 by omega, decide_eq_true (by omega : j ≤ j + 32), show Nat.testBit 4374732215 32 = true by decide]
      cases y.testBit 0 <;> rfl
    · rw [decide_eq_true (by omega : j ≥ t), decide_eq_true (by omega : j ≥ t + 1), gen_bit, show j - (t + 1) + 1 = j - t by omega, Bool.true_and, Bool.true_and]
      congr 2
      by_cases hle : j ≤ t + 32
      · rw [decide_eq_true hle, Bool.true_and, show 32 + t - j = 32 - (j - t) by omega, poly_bits (j - t) (by omega) (by omega), show j - t - 1 = j - (t + 1) by omega]
      · have e3 : Nat.testBit 3988292384 (j - (t + 1)) = false := Nat.testBit_lt_two_pow (Nat.lt_of_lt_of_le (by decide : 3988292384 < 2 ^ 32) (Nat.pow_le_pow_right (by decide) (by omega)))
        rw [decide_eq_false hle, e3]; rfl
theorem genStep_lt {x k : Nat} (h : x < 2 ^ (k + 1)) (hk : 32 ≤ k) : genStep x < 2 ^ k := by
  refine Nat.lt_pow_two_of_testBit _ fun i hi => ?_
  rw [gen_bit, Nat.testBit_lt_two_pow (Nat.lt_of_lt_of_le h (Nat.pow_le_pow_right (by decide) (by omega : k + 1 ≤ i + 1))),
    Nat.testBit_lt_two_pow (x := 3988292384) (Nat.lt_of_lt_of_le (by decide : 3988292384 < 2 ^ 32) (Nat.pow_le_pow_right (by decide) (by omega : 32 ≤ i)))]
  simp
theorem genIter_lt {x : Nat} : ∀ {t k : Nat}, x < 2 ^ (k + t) → 32 ≤ k → genIter t x < 2 ^ k
  | 0, k, h, _ => h
  | t + 1, k, h, hk => genStep_lt (genIter_lt (t := t) (k := k + 1) (by rwa [show k + 1 + t = k + (t + 1) by omega]) (by omega)) hk
theorem crc_gen (cs : List Nat) (h : ∀ c ∈ cs, c < 256) : crcOf cs = genIter (8 * cs.length) (4294967295 ^^^ le cs) ^^^ 4294967295 := by
  unfold crcOf
  congr 1
  have hx : (4294967295 ^^^ le cs) < 2 ^ (32 + 8 * cs.length) := by
    refine Nat.xor_lt_two_pow (Nat.lt_of_lt_of_le (by decide : 4294967295 < 2 ^ 32) (Nat.pow_le_pow_right (by decide) (by omega))) (Nat.lt_of_lt_of_le (le_lt cs h) (Nat.pow_le_pow_right (by decide) (by omega)))
  have hs : ∀ j, j < 8 * cs.length + 32 → (crcStart cs).testBit (8 * cs.length + 31 - j) = (4294967295 ^^^ le cs).testBit j := by
    intro j hj
    unfold crcStart
    rw [Nat.testBit_xor, Nat.testBit_xor, Nat.testBit_shiftLeft, Nat.testBit_shiftLeft, Bool.xor_comm]
    congr 1
    · by_cases h32 : j < 32
      · rw [decide_eq_true (by omega : 8 * cs.length + 31 - j ≥ 8 * cs.length), show 8 * cs.length + 31 - j - 8 * cs.length = 31 - j by omega]
        have hall : ∀ k, k < 32 → Nat.testBit 4294967295 k = true := by decide
        rw [hall _ (by omega), hall _ h32]; rfl
      · rw [decide_eq_false (by omega : ¬ 8 * cs.length + 31 - j ≥ 8 * cs.length), Nat.testBit_lt_two_pow (x := 4294967295) (Nat.lt_of_lt_of_le (by decide : 4294967295 < 2 ^ 32) (Nat.pow_le_pow_right (by decide) (by omega : 32 ≤ j)))]; rfl
    · by_cases hn : j < 8 * cs.length
      · rw [decide_eq_true (by omega : 8 * cs.length + 31 - j ≥ 32), show 8 * cs.length + 31 - j - 32 = 8 * cs.length - 1 - j by omega, nat_le cs h j hn]; rfl
      · rw [decide_eq_false (by omega : ¬ 8 * cs.length + 31 - j ≥ 32), Nat.testBit_lt_two_pow (Nat.lt_of_lt_of_le (le_lt cs h) (Nat.pow_le_pow_right (by decide) (by omega : 8 * cs.length ≤ j)))]; rfl
  have hd := div_gen (8 * cs.length) (crcStart cs) (4294967295 ^^^ le cs) hs (8 * cs.length) (Nat.le_refl _)
  refine Nat.eq_of_testBit_eq fun j => ?_
  by_cases hj : j < 32
  · rw [flip_all _ 32 j hj]
    have q := hd (8 * cs.length + j) (by omega)
    rw [show 8 * cs.length + 31 - (8 * cs.length + j) = 32 - 1 - j by omega, Nat.testBit_shiftLeft, decide_eq_true (by omega : 8 * cs.length + j ≥ 8 * cs.length), Nat.add_sub_cancel_left, Bool.true_and] at q
    exact q
  · rw [Nat.testBit_lt_two_pow (Nat.lt_of_lt_of_le (flipI_lt _ 32 32 (Nat.le_refl _)) (Nat.pow_le_pow_right (by decide) (by omega : 32 ≤ j))),
      Nat.testBit_lt_two_pow (Nat.lt_of_lt_of_le (genIter_lt hx (Nat.le_refl _)) (Nat.pow_le_pow_right (by decide) (by omega : 32 ≤ j)))]
theorem genStep_xor (x y : Nat) : genStep (x ^^^ y) = genStep x ^^^ genStep y := by
  refine Nat.eq_of_testBit_eq fun j => ?_
  rw [Nat.testBit_xor, gen_bit, gen_bit, gen_bit, Nat.testBit_xor, Nat.testBit_xor]
  cases x.testBit (j + 1) <;> cases y.testBit (j + 1) <;> cases x.testBit 0 <;> cases y.testBit 0 <;> cases Nat.testBit 3988292384 j <;> rfl
theorem genIter_xor (x y : Nat) : ∀ t, genIter t (x ^^^ y) = genIter t x ^^^ genIter t y
  | 0 => rfl
  | t + 1 => by show genStep _ = _; rw [genIter_xor x y t, genStep_xor]; rfl
theorem genIter_add (x : Nat) (t : Nat) : ∀ u, genIter (t + u) x = genIter u (genIter t x)
  | 0 => rfl
  | u + 1 => congrArg genStep (genIter_add x t u)
theorem genStep_even (y : Nat) : genStep (y <<< 1) = y := by
  unfold genStep
  rw [Nat.shiftLeft_eq]
  rw [if_neg (by omega), Nat.shiftRight_eq_div_pow]
  omega
theorem genIter_shift (y : Nat) : ∀ t, genIter t (y <<< t) = y
  | 0 => Nat.shiftLeft_zero
  | t + 1 => by
    rw [Nat.add_comm t 1, genIter_add, show genIter 1 (y <<< (1 + t)) = genStep (y <<< (1 + t)) from rfl, Nat.add_comm 1 t, Nat.shiftLeft_add, genStep_even]
    exact genIter_shift y t
theorem along_gen : ∀ (cs : List Nat) (r : Nat), along r cs = genIter (8 * cs.length) (r ^^^ le cs)
  | [], r => by simp [along, le, genIter]
  | c :: cs, r => by
    show along (genIter 8 (r ^^^ c)) cs = _
    rw [along_gen cs, List.length_cons, Nat.mul_add, Nat.add_comm (8 * cs.length), genIter_add]
    congr 1
    show _ = genIter 8 (r ^^^ (c ^^^ le cs <<< 8))
    rw [← Nat.xor_assoc, genIter_xor (r ^^^ c), genIter_shift]
theorem crc_along (cs : List Nat) (h : ∀ c ∈ cs, c < 256) : along 4294967295 cs ^^^ 4294967295 = crcOf cs := by
  rw [crc_gen cs h, along_gen]
theorem back_gen {x : Nat} (h : x < 2 ^ 32) : backStep (genStep x) = x := by
  have hg : genStep x < 2 ^ 32 := genStep_lt (k := 32) (Nat.lt_of_lt_of_le h (by decide)) (Nat.le_refl _)
  have hx31 : x >>> 1 < 2 ^ 31 := by rw [Nat.shiftRight_eq_div_pow]; omega
  by_cases ho : x % 2 = 1
  · have e : genStep x = (x >>> 1) ^^^ 3988292384 := by rw [genStep, if_pos ho]
    have hb : (genStep x).testBit 31 = true := by
      rw [e, Nat.testBit_xor, Nat.testBit_lt_two_pow hx31]; decide
    have hn : ¬ genStep x >>> 31 = 0 := by
      intro hz
      have := (tb_odd (genStep x) 31).mpr hb
      rw [hz] at this; cases this
    rw [backStep, if_neg hn, e, Nat.xor_assoc, Nat.xor_self, Nat.xor_zero]
    have h1 : ((x >>> 1) <<< 1 ||| 1) = x := by
      refine Nat.eq_of_testBit_eq fun j => ?_
      rw [Nat.testBit_or, Nat.testBit_shiftLeft, Nat.testBit_shiftRight]
      rcases j with _ | j
      · have h0 : x.testBit 0 = true := by have := tb_odd x 0; rw [Nat.shiftRight_zero] at this; exact this.mp ho
        rw [h0]; rfl
      · have hf : Nat.testBit 1 (j + 1) = false := by
          rw [← Bool.not_eq_true]; exact fun e => absurd (Nat.testBit_one_eq_true_iff_self_eq_zero.mp e) (by omega)
        rw [hf, decide_eq_true (by omega : j + 1 ≥ 1), show 1 + (j + 1 - 1) = j + 1 by omega]; simp
    exact h1
  · have e : genStep x = x >>> 1 := by rw [genStep, if_neg ho]
    have hz : genStep x >>> 31 = 0 := by rw [e, Nat.shiftRight_eq_div_pow]; exact Nat.div_eq_of_lt hx31
    rw [backStep, if_pos hz, e, Nat.shiftRight_eq_div_pow, Nat.shiftLeft_eq]
    omega
theorem backIter_succ' (x : Nat) : ∀ t, backIter (t + 1) x = backIter t (backStep x)
  | 0 => rfl
  | t + 1 => congrArg backStep (backIter_succ' x t)
theorem genIter_lt32 {x : Nat} (h : x < 2 ^ 32) (t : Nat) : genIter t x < 2 ^ 32 :=
  genIter_lt (Nat.lt_of_lt_of_le h (Nat.pow_le_pow_right (by decide) (by omega))) (Nat.le_refl _)
theorem backIter_gen {x : Nat} (h : x < 2 ^ 32) : ∀ t, backIter t (genIter t x) = x
  | 0 => rfl
  | t + 1 => by
    rw [backIter_succ', show genIter (t + 1) x = genStep (genIter t x) from rfl, back_gen (genIter_lt32 h t)]
    exact backIter_gen h t
theorem along_lt {r : Nat} (hr : r < 2 ^ 32) (cs : List Nat) (h : ∀ c ∈ cs, c < 256) : along r cs < 2 ^ 32 := by
  rw [along_gen]
  refine genIter_lt ?_ (Nat.le_refl _)
  exact Nat.xor_lt_two_pow (Nat.lt_of_lt_of_le hr (Nat.pow_le_pow_right (by decide) (by omega))) (Nat.lt_of_lt_of_le (le_lt cs h) (Nat.pow_le_pow_right (by decide) (by omega)))
theorem along_append (r : Nat) (a b : List Nat) : along r (a ++ b) = along (along r a) b := by
  unfold along; rw [List.foldl_append]
theorem end_along {r : Nat} (hr : r < 2 ^ 32) : ∀ (cs : List Nat), (∀ c ∈ cs, c < 256) → endIter (along r cs) cs.reverse = r := by
  refine snoc_ind ?_ ?_
  · intro _; rfl
  · intro cs c ih h
    have hcs : ∀ x ∈ cs, x < 256 := fun x hx => h x (by simp [hx])
    have hc : c < 256 := h c (by simp)
    rw [List.reverse_append, List.reverse_singleton, List.singleton_append]
    show endIter (backIter 8 (along r (cs ++ [c])) ^^^ c) cs.reverse = r
    rw [along_append, show along (along r cs) [c] = genIter 8 (along r cs ^^^ c) from rfl, backIter_gen (Nat.xor_lt_two_pow (along_lt hr cs hcs) (Nat.lt_trans hc (by decide))), Nat.xor_assoc, Nat.xor_self, Nat.xor_zero]
    exact ih hcs
theorem lost_le {r : Nat} (hr : r < 2 ^ 32) (b : List Nat) (hb : ∀ c ∈ b, c < 256) (h4 : b.length = 4) : r ^^^ backIter 32 (along r b) = le b := by
  have hl : le b < 2 ^ 32 := by have := le_lt b hb; rwa [h4] at this
  rw [along_gen, h4, show 8 * 4 = 32 from rfl, backIter_gen (Nat.xor_lt_two_pow hr hl), ← Nat.xor_assoc, Nat.xor_self, Nat.zero_xor]
theorem le_byte : ∀ (b : List Nat), (∀ c ∈ b, c < 256) → ∀ j, le b >>> (8 * j) &&& 255 = b.getD j 0
  | [], _, j => by simp [le]
  | c :: b, h, 0 => by
    have hc := h c (.head _)
    show (c ^^^ le b <<< 8) >>> 0 &&& 255 = c
    refine Nat.eq_of_testBit_eq fun i => ?_
    rw [Nat.shiftRight_zero, Nat.testBit_and, Nat.testBit_xor, Nat.testBit_shiftLeft]
    by_cases hi : i < 8
    · have hall : ∀ k, k < 8 → Nat.testBit 255 k = true := by decide
      rw [hall i hi, decide_eq_false (by omega : ¬ i ≥ 8)]; simp
    · rw [Nat.testBit_lt_two_pow (x := 255) (Nat.lt_of_lt_of_le (by decide : 255 < 2 ^ 8) (Nat.pow_le_pow_right (by decide) (by omega : 8 ≤ i))), Nat.testBit_lt_two_pow (x := c) (Nat.lt_of_lt_of_le (show c < 2 ^ 8 from hc) (Nat.pow_le_pow_right (by decide) (by omega : 8 ≤ i)))]; simp
  | c :: b, h, j + 1 => by
    have hc := h c (.head _)
    have ih := le_byte b (fun x hx => h x (.tail _ hx)) j
    show (c ^^^ le b <<< 8) >>> (8 * (j + 1)) &&& 255 = b.getD j 0
    rw [← ih]
    congr 1
    refine Nat.eq_of_testBit_eq fun i => ?_
    rw [Nat.testBit_shiftRight, Nat.testBit_shiftRight, Nat.testBit_xor, Nat.testBit_shiftLeft, decide_eq_true (by omega : 8 * (j + 1) + i ≥ 8), show 8 * (j + 1) + i - 8 = 8 * j + i by omega,
      Nat.testBit_lt_two_pow (x := c) (Nat.lt_of_lt_of_le (show c < 2 ^ 8 from hc) (Nat.pow_le_pow_right (by decide) (by omega : 8 ≤ 8 * (j + 1) + i)))]
    simp
/-- what is left of the four octets -/
theorem lost_all (nm : List Nat) (h : ∀ c ∈ nm, c < 256) (p : Nat) (hp : p + 4 ≤ nm.length) :
    let lost := along 4294967295 (nm.take p) ^^^ backIter 32 (endIter (crcOf nm ^^^ 4294967295) (nm.drop (p + 4)).reverse)
    lost < 2 ^ 32 ∧ ((List.range 4).map fun j => lost >>> (8 * j) &&& 255) = (nm.drop p).take 4 := by
  intro lost
  have hsp : nm = nm.take p ++ (nm.drop p).take 4 ++ nm.drop (p + 4) := by
    rw [List.append_assoc, ← List.drop_drop, List.take_append_drop, List.take_append_drop]
  have hA : ∀ c ∈ nm.take p, c < 256 := fun c hc => h c (List.mem_of_mem_take hc)
  have hB : ∀ c ∈ (nm.drop p).take 4, c < 256 := fun c hc => h c (List.mem_of_mem_drop (List.mem_of_mem_take hc))
  have hC : ∀ c ∈ nm.drop (p + 4), c < 256 := fun c hc => h c (List.mem_of_mem_drop hc)
  have h4 : ((nm.drop p).take 4).length = 4 := by rw [List.length_take, List.length_drop]; omega
  have hr := along_lt (by decide : 4294967295 < 2 ^ 32) _ hA
  have e1 : crcOf nm ^^^ 4294967295 = along (along (along 4294967295 (nm.take p)) ((nm.drop p).take 4)) (nm.drop (p + 4)) := by
    rw [← crc_along nm h, Nat.xor_assoc, Nat.xor_self, Nat.xor_zero, ← along_append, ← along_append, ← List.append_assoc, ← hsp]
  have e2 : lost = le ((nm.drop p).take 4) := by
    show along 4294967295 (nm.take p) ^^^ backIter 32 (endIter (crcOf nm ^^^ 4294967295) (nm.drop (p + 4)).reverse) = _
    rw [e1, end_along (along_lt hr _ hB) _ hC]
    exact lost_le hr _ hB h4
  rw [e2]
  refine ⟨by have := le_lt _ hB; rwa [h4] at this, ?_⟩
  have hby := le_byte _ hB
  refine List.ext_getElem (by simp [h4]) fun j h1 h2 => ?_
  rw [List.getElem_map, List.getElem_range, hby j, List.getD_eq_getElem?_getD, List.getElem?_eq_getElem h2]
  rfl
theorem crc_lt (nm : List Nat) (h : ∀ c ∈ nm, c < 256) : crcOf nm < 2 ^ 32 := by
  rw [← crc_along nm h]
  exact Nat.xor_lt_two_pow (along_lt (by decide) _ h) (by decide)
end Mine
end
section
open PySem PySem.W PyProof.Rows PySem.Calls
set_option maxRecDepth 100000
set_option linter.unusedVariables false
namespace Mine
def mp (c : Nat) : List Nat := if 65 ≤ c ∧ c ≤ 90 then [c + 32] else if 119808 ≤ c then [c - 119808 + 97] else [c]
theorem mp_len (c : Nat) : (mp c).length ≤ 4 := by
  unfold mp
  split
  · show 1 ≤ 4; omega
  · split
    · show 1 ≤ 4; omega
    · show 1 ≤ 4; omega
def chk (c : Nat) : Bool := match Spec.lookup (.int (c : Int)) b3D with
  | some (.str x) => decide (x = ⟨(mp c).toArray⟩)
  | none => decide (Txt.lower ⟨#[c]⟩ = ⟨(mp c).toArray⟩)
  | _ => false
theorem maps_of {c : Nat} (h : chk c = true) : Maps mp c := by
  unfold chk at h
  split at h
  · rename_i x e
    exact .inl (by rw [e, of_decide_eq_true h])
  · rename_i e
    exact .inr ⟨e, of_decide_eq_true h⟩
  · cases h
def plainSign (c : Nat) : Bool := !c9L.contains (c : Int) && !c7L.contains (c : Int) && !b1L.contains (c : Int) && chk c
theorem lookup_low {c : Nat} (hc : c ≤ 122) : ∀ D : List (PyData × PyData), (D.all fun p => match p.1 with | .int i => decide (122 < i) | _ => false) = true → Spec.lookup (.int (c : Int)) D = none
  | [], _ => rfl
  | (k, v) :: r, h => by
    rw [List.all_cons, Bool.and_eq_true] at h
    rw [Spec.lookup, lookup_low hc r h.2]
    cases k with
    | int i =>
      have h1 : 122 < i := of_decide_eq_true h.1
      have h2 : Spec.same (.int i) (.int (c : Int)) = false := by
        show (i == (c : Int)) = false
        rw [beq_eq_false_iff_ne]
        omega
      rw [h2, if_neg Bool.false_ne_true]
    | none | bool _ | str _ | list _ | tuple _ | dict _ => cases h.1
theorem b3_low : (b3D.all fun p => match p.1 with | .int i => decide (122 < i) | _ => false) = true := by decide +kernel
def lowOk (c : Nat) : Bool := !c9L.contains (c : Int) && !c7L.contains (c : Int) && !b1L.contains (c : Int) && decide (Txt.lower ⟨#[c]⟩ = ⟨(mp c).toArray⟩)
theorem plain_of_low {c : Nat} (hc : c ≤ 122) (h : lowOk c = true) : plainSign c = true := by
  unfold plainSign chk
  rw [lookup_low hc b3D b3_low]
  exact h
theorem low_small : ∀ r : Nat, r < 26 → lowOk (97 + r) = true := by decide +kernel
theorem low_big : ∀ r : Nat, r < 26 → lowOk (65 + r) = true := by decide +kernel
theorem low_digit : ∀ r : Nat, r < 10 → lowOk (48 + r) = true := by decide +kernel
theorem plain_small (r : Nat) (h : r < 26) : plainSign (97 + r) = true := plain_of_low (by omega) (low_small r h)
theorem plain_big (r : Nat) (h : r < 26) : plainSign (65 + r) = true := plain_of_low (by omega) (low_big r h)
theorem plain_bold : ∀ r : Nat, r < 26 → plainSign (119808 + r) = true := by decide +kernel
theorem plain_digit (r : Nat) (h : r < 10) : plainSign (48 + r) = true := plain_of_low (by omega) (low_digit r h)
theorem gap_in : ∀ r : Nat, r < 12 → c9L.contains ((12272 + r : Nat) : Int) = false ∧ c7L.contains ((12272 + r : Nat) : Int) = true := by decide +kernel
theorem hid_in : ∀ c : Nat, c < 27 → c9L.contains (((hid hidP c).toNat : Nat) : Int) = false ∧ c7L.contains (((hid hidP c).toNat : Nat) : Int) = false ∧ b1L.contains (((hid hidP c).toNat : Nat) : Int) = true := by decide +kernel
theorem tag_in : ∀ d : Nat, d < 16 → c9L.contains ((917504 + hexCode d : Nat) : Int) = true := by decide +kernel
theorem sign_plain (k : Nat) : plainSign (signA k) = true ∧ mp (signA k) = [signB k] := by
  have h26 : k / 4 % 26 < 26 := Nat.mod_lt _ (by decide)
  have h10 : k / 4 % 10 < 10 := Nat.mod_lt _ (by decide)
  unfold signA signB
  by_cases h0 : k % 4 = 0
  · rw [if_pos h0, if_neg (by omega)]
    refine ⟨plain_small _ h26, ?_⟩
    rw [mp, if_neg (by omega), if_neg (by omega)]
  · rw [if_neg h0]
    by_cases h1 : k % 4 = 1
    · rw [if_pos h1, if_neg (by omega)]
      refine ⟨plain_big _ h26, ?_⟩
      rw [mp, if_pos (by omega), show 65 + k / 4 % 26 + 32 = 97 + k / 4 % 26 by omega]
    · rw [if_neg h1]
      by_cases h2 : k % 4 = 2
      · rw [if_pos h2, if_neg (by omega)]
        refine ⟨plain_bold _ h26, ?_⟩
        rw [mp, if_neg (by omega), if_pos (by omega), show 119808 + k / 4 % 26 - 119808 + 97 = 97 + k / 4 % 26 by omega]
      · rw [if_neg h2, if_pos (by omega)]
        refine ⟨plain_digit _ h10, ?_⟩
        rw [mp, if_neg (by omega), if_neg (by omega)]
theorem signB_lt (k : Nat) : signB k < 256 := by
  have h26 : k / 4 % 26 < 26 := Nat.mod_lt _ (by decide)
  have h10 : k / 4 % 10 < 10 := Nat.mod_lt _ (by decide)
  unfold signB
  split <;> omega
theorem plain_parts {c : Nat} (h : plainSign c = true) : c9L.contains (c : Int) = false ∧ c7L.contains (c : Int) = false ∧ b1L.contains (c : Int) = false ∧ chk c = true := by
  unfold plainSign at h
  simp only [Bool.and_eq_true, Bool.not_eq_true'] at h
  exact ⟨h.1.1.1, h.1.1.2, h.1.2, h.2⟩
theorem rs_sign (st : List Int × List Int) (k : Nat) : readStep mp st (signA k) = (st.1 ++ [(signB k : Int)], st.2) := by
  obtain ⟨h, e⟩ := sign_plain k
  obtain ⟨h1, h2, h3, _⟩ := plain_parts h
  rw [readStep, if_neg (by rw [h1]; decide), if_neg (by rw [h2]; decide), if_neg (by rw [h3]; decide), e]
  rfl
theorem rs_gap (st : List Int × List Int) (r : Nat) (hr : r < 12) : readStep mp st (12272 + r) = (st.1 ++ [-1], st.2) := by
  obtain ⟨h1, h2⟩ := gap_in r hr
  rw [readStep, if_neg (by rw [h1]; decide), if_pos h2]
theorem rs_hid (st : List Int × List Int) (c : Nat) (hc : c < 27) : readStep mp st (hid hidP c).toNat = st := by
  obtain ⟨h1, h2, h3⟩ := hid_in c hc
  rw [readStep, if_neg (by rw [h1]; decide), if_neg (by rw [h2]; decide), if_pos h3]
theorem tag_in' (c j : Nat) : c9L.contains ((917504 + tagOf c j : Nat) : Int) = true := tag_in _ (Nat.lt_of_le_of_lt Nat.and_le_right (by decide))
theorem rs_tag (st : List Int × List Int) (c j : Nat) : readStep mp st (917504 + tagOf c j) = (st.1, st.2 ++ [(tagOf c j : Int)]) := by
  rw [readStep, if_pos (tag_in' c j)]
  congr 3
  omega
def octAt (xs : List Int) (p i : Nat) : Int := if inGap p i then -1 else (signB ((keys xs).getD i 0) : Int)
theorem read_txt (xs : List Int) (c p : Nat) : ∀ i, (txt xs c p i).foldl (readStep mp) ([], []) = ((List.range i).map (octAt xs p), (List.range (min i 8)).map fun j => (tagOf c j : Int))
  | 0 => rfl
  | i + 1 => by
    rw [txt_succ, List.foldl_append, List.foldl_append, read_txt xs c p i]
    have e1 : ∀ st, List.foldl (readStep mp) st [signOf xs p i] = (st.1 ++ [octAt xs p i], st.2) := by
      intro st
      show readStep mp st (signOf xs p i) = _
      unfold signOf octAt
      split
      · exact rs_gap st _ (Nat.mod_lt _ (by decide))
      · exact rs_sign st _
    have e2 : ∀ st, List.foldl (readStep mp) st (restOf c i) = (st.1, st.2 ++ if i < 8 then [(tagOf c i : Int)] else []) := by
      intro st
      unfold restOf
      rw [List.foldl_append, show List.foldl (readStep mp) st [(hid hidP ((i % 27 : Nat) : Int)).toNat] = st from rs_hid st _ (Nat.mod_lt _ (by decide))]
      split
      · exact rs_tag st c i
      · show st = _; rw [List.append_nil]
    rw [e1, e2, List.range_succ, List.map_append]
    congr 1
    by_cases h8 : i < 8
    · rw [if_pos h8, show min i 8 = i by omega, show min (i + 1) 8 = i + 1 by omega, List.range_succ, List.map_append]; rfl
    · rw [if_neg h8, show min i 8 = 8 by omega, show min (i + 1) 8 = 8 by omega, List.append_nil]
theorem read_tail (c : Nat) : ∀ (l : List Nat) (st : List Int × List Int), (l.map fun j => 917504 + tagOf c j).foldl (readStep mp) st = (st.1, st.2 ++ l.map fun j => (tagOf c j : Int))
  | [], st => by simp
  | j :: l, st => by
    rw [List.map_cons, List.foldl_cons, rs_tag, read_tail c l, List.map_cons]
    simp
theorem read_all (xs : List Int) (c p : Nat) : readAll mp (txt xs c p (keys xs).length ++ tailOf c (keys xs).length) = ((List.range (keys xs).length).map (octAt xs p), (List.range 8).map fun j => (tagOf c j : Int)) := by
  unfold readAll
  rw [List.foldl_append, read_txt, tailOf, read_tail, ← List.map_append]
  congr 2
  by_cases h : (keys xs).length < 8
  · rw [show min (keys xs).length 8 = (keys xs).length by omega]
    have : (List.range 8).take (keys xs).length = List.range (keys xs).length := by
      rw [List.take_range, show min (keys xs).length 8 = (keys xs).length by omega]
    rw [← this, List.take_append_drop]
  · rw [show min (keys xs).length 8 = 8 by omega, List.drop_eq_nil_of_le (by simp; omega), List.append_nil]
theorem neg4 : ∀ (q : Nat) (h : q < ([-1, -1, -1, -1] : List Int).length), ([-1, -1, -1, -1] : List Int)[q] = -1
  | 0, _ => rfl
  | 1, _ => rfl
  | 2, _ => rfl
  | 3, _ => rfl
  | n + 4, h => absurd h (by simp)
theorem oct_list (xs : List Int) (p : Nat) (hp : p + 4 ≤ (keys xs).length) : (List.range (keys xs).length).map (octAt xs p) =
    (((keys xs).map signB).take p).map (fun (n : Nat) => (n : Int)) ++ [-1, -1, -1, -1] ++ (((keys xs).map signB).drop (p + 4)).map fun (n : Nat) => (n : Int) := by
  have hl1 : ((((keys xs).map signB).take p).map (fun (n : Nat) => (n : Int))).length = p := by rw [List.length_map, List.length_take, List.length_map]; omega
  refine List.ext_getElem ?_ fun i h1 h2 => ?_
  · rw [List.length_append, List.length_append, hl1, List.length_map, List.length_range, List.length_map, List.length_drop, List.length_map]
    show _ = p + 4 + _
    omega
  · rw [List.getElem_map, List.getElem_range]
    have hi : i < (keys xs).length := by simpa using h1
    have hg : (keys xs).getD i 0 = (keys xs)[i] := by rw [List.getD_eq_getElem?_getD, List.getElem?_eq_getElem hi]; rfl
    unfold octAt inGap
    rw [List.getElem_append]
    by_cases ha : i < p
    · rw [dif_pos (by rw [List.length_append, hl1]; show i < p + 4; omega), List.getElem_append_left (by rw [hl1]; exact ha), if_neg (by simp; omega), hg]
      simp
    · by_cases hb : i < p + 4
      · rw [dif_pos (by rw [List.length_append, hl1]; exact hb), List.getElem_append_right (by rw [hl1]; omega), if_pos (by simp; omega)]
        exact (neg4 _ _).symm
      · rw [dif_neg (by rw [List.length_append, hl1]; show ¬ i < p + 4; exact hb), if_neg (by simp; omega), hg]
        simp only [List.length_append, hl1, List.getElem_map, List.getElem_drop]
        congr 3
        show i = p + 4 + (i - (p + 4))
        omega
theorem maps_all (xs : List Int) (c p : Nat) : ∀ ch ∈ txt xs c p (keys xs).length ++ tailOf c (keys xs).length, c9L.contains (ch : Int) = false → c7L.contains (ch : Int) = false → b1L.contains (ch : Int) = false → Maps mp ch := by
  intro ch hch h1 h2 h3
  rcases List.mem_append.mp hch with h | h
  · obtain ⟨i, _, hi⟩ := List.mem_flatMap.mp h
    unfold bitOf at hi
    simp only [List.cons_append, List.nil_append, List.mem_cons] at hi
    rcases hi with rfl | rfl | hi
    · unfold signOf at h1 h2 h3 ⊢
      split at h1
      · rename_i hg
        rw [if_pos hg] at h2
        rw [(gap_in _ (Nat.mod_lt _ (by decide))).2] at h2; cases h2
      · rename_i hg
        rw [if_neg hg]
        exact maps_of (plain_parts (sign_plain _).1).2.2.2
    · rw [(hid_in _ (Nat.mod_lt _ (by decide))).2.2] at h3; cases h3
    · split at hi
      · rw [List.mem_singleton.mp hi, tag_in'] at h1; cases h1
      · cases hi
  · unfold tailOf at h
    obtain ⟨j, _, rfl⟩ := List.mem_map.mp h
    rw [tag_in'] at h1; cases h1
end Mine
end
section
open PySem PySem.W PyProof.Rows PySem.Calls
set_option maxRecDepth 100000
set_option linter.unusedVariables false
namespace Mine
set_option maxHeartbeats 4000000 in
theorem law_body {w : World} {A : Around} {s : Shared} {mg mb : Str → Option Value} {h₀ : Heap} {L f : Addr} {cd : Value} {RR : Flow → Shared → Prop} {m : Str → Option Value} {o₁ o₂ : Obj} {l : Addr} {vs : List Value} {xs : List Int}
    (G : GG w mg mb h₀) (hh : A.handled = none) (hA : A.depth + 3 < recursionLimit) (hu : A.units + 64 < cLine) (F : Fr h₀ L s.heap m) (hs : m "script" = some (.ref l)) (hl : h₀.IsList l vs.toArray) (hx : IntsAre vs xs) (h63 : xs.length ≤ 63)
    (hc1 : o₁.data = .cell none) (hc2 : o₂.data = .cell none) (N : News h₀ L s.heap [(L + 2, o₁), (L + 1, o₂)]) (hP : Post h₀ s RR) : Part w A 0 L f cd RR s := by
  have hl20 := nums_len xs
  have hkl : (keys xs).length = 4 + (nums xs).length := by
    show ([60, 41, 15, 19] ++ nums xs).length = _
    rw [List.length_append]; rfl
  have hp : (nums xs).sum % ((keys xs).length - 3) < (keys xs).length - 3 := Nat.mod_lt _ (by omega)
  have h256 : ∀ c ∈ (keys xs).map signB, c < 256 := by
    intro c hc
    obtain ⟨k, _, rfl⟩ := List.mem_map.mp hc
    exact signB_lt k
  have hcl := crc_lt _ h256
  refine part0 G hh F hs hl hx h63 N fun ln us m1 h1 tk1 F1 a1 hus N1 => ?_
  refine part1 G hh (by omega) F1 a1 hus N1 fun lp ys tl m2 h2 tk2 F2 a2 b2 hP2 N2 => ?_
  refine part2 G hh (by omega) F2 a2 b2 hP2 N2 fun lm zs m3 h3 tk3 F3 a3 b3 c3 hz N3 => ?_
  refine part3 G hh (by omega) F3 a3 b3 c3 hus hz N3 fun tp m4 h4 tk4 F4 a4 b4 c4 d4 N4 => ?_
  revert hp d4
  generalize (nums xs).sum % ((keys xs).length - 3) = p
  intro hp d4
  have hp4 : p + 4 ≤ ((keys xs).map signB).length := by rw [List.length_map]; omega
  refine part4 G hh (by omega) F4 a4 b4 c4 d4 hP2 hc2 hc1 N4 fun oc tc m5 h5 tk5 hoc F5 a5 b5 c5 d5 N5 => ?_
  have hlost := lost_all _ h256 p hp4
  have hcrc := crc_along _ h256
  generalize hcc : crcOf ((keys xs).map signB) = c at *
  refine part5 G hh (by omega) F5 a5 b5 c5 d5 hoc hcl N5 fun lt qs m6 h6 tk6 hq F6 a6 b6 c6 d6 e6 N6 => ?_
  refine part6 G hh (by omega) F6 a6 b6 c6 d6 e6 hus hP2 (by omega) hq N6 fun tx m8 h8 tk8 F8 b8 c8 d8 e8 f8 N8 => ?_
  have hxl := txt_len xs c p (keys xs).length
  refine part8 (n := (keys xs).length) G hh (by omega) F8 b8 c8 d8 e8 f8 (by omega) hP2.1 (by omega) hq N8 fun tx' m9 h9 tk9 F9 c9 d9 e9 f9 N9 => ?_
  have htl : (tailOf c (keys xs).length).length ≤ 8 := by rw [tailOf, List.length_map, List.length_drop]; simp
  refine part9 mp G hh hA F9 c9 d9 e9 f9 (by rw [List.length_append]; omega) (maps_all xs c p) mp_len N9 fun lo lf oo of vo vf m10 h10 tk10 F10 c10 d10 e10 f10 g10 hoo hof Io If N10 => ?_
  rw [read_all] at Io If
  dsimp only at Io If
  rw [oct_list xs p (by omega)] at Io
  have hz' : IntsAre zs (((keys xs).map signB).map fun (n : Nat) => (n : Int)) := by rw [List.map_map]; exact hz
  generalize hnm : (keys xs).map signB = nm at *
  have hnl : nm.length ≤ 24 := by rw [← hnm, List.length_map]; omega
  refine part10 (ns := nm.map fun (n : Nat) => (n : Int)) (p := p) G hh hA F10 c10 d10 e10 f10 g10 hoo hof hz' hq Io If (by rw [List.map_take, List.map_drop]) hu (by simp) (by rw [List.length_map]; omega) ?_ (by omega) N10 fun m11 h11 tk11 F11 c11 d11 f11 N11 => ?_
  · rw [List.length_append, List.length_append, List.length_map, List.length_map, List.length_take, List.length_drop]
    show _ + 4 + _ ≤ 100
    omega
  have N11' : News h₀ L h11 [(L + 1, oc), (L + 2, o₁), (lo, oo), (lm, LCg.lst zs)] := fun q hq => N11 q (by
    simp only [List.mem_cons, List.not_mem_nil, or_false] at hq ⊢
    rcases hq with e | e | e | e
    · exact .inr (.inr (.inr (.inr (.inr (.inl e)))))
    · exact .inr (.inr (.inr (.inr (.inl e))))
    · exact .inl e
    · exact .inr (.inr (.inr (.inl e))))
  refine part11 (nm := nm) G hh hA F11 c11 d11 f11 hoo hoc hcl Io (by omega) hp4 (fun n hn => Nat.lt_trans (h256 n hn) (by decide)) N11' fun la lb oa ob va vb te m15 h15 tk15 F15 c15 d15 f15 g15 e15 hoa hob Ia Ib N15 => ?_
  have hend := endIter_lt (e := c ^^^ 4294967295) (Nat.xor_lt_two_pow hcl (by decide)) (nm.drop (p + 4)).reverse fun o ho => Nat.lt_trans (h256 o (List.mem_of_mem_drop (List.mem_reverse.mp ho))) (by decide)
  refine part15 (ah := nm.take p) G hh hA F15 c15 d15 f15 g15 e15 hoa hob hc1 ⟨_, hoc⟩ hend Ia N15 fun ol tl' m16 h16 tk16 hol F16 c16 d16 f16 g16 N16 => ?_
  refine part16 (ah := nm.take p) (bh := nm.drop (p + 4)) (nm := nm) G hh hA hu F16 c16 d16 f16 g16 hoa hob hol hoc Ia Ib hz' hlost.1 hlost.2 ?_ hcrc (by omega) hp4 N16 hP
  rw [List.append_assoc, ← List.drop_drop, List.take_append_drop, List.take_append_drop]
set_option maxHeartbeats 4000000 in
theorem law_call {w : World} {A : Around} {E : Value → Shared → Prop} {s : Shared} {Q : Value → Shared → Prop} {mg mb : Str → Option Value} {f : Addr} {l : Addr} {vs : List Value} {xs : List Int}
    (G : GG w mg mb s.heap) (hf : mg "law" = some (.ref f)) (hA : A.depth + 5 < recursionLimit) (hh : A.handled = none) (hu : A.units + 200 < cLine) (hl : s.heap.IsList l vs.toArray) (hx : IntsAre vs xs) (h63 : xs.length ≤ 63)
    (hQ : ∀ h' tk, Grows s.heap h' → Q (.bool true) { s with heap := h', toks := tk }) : wpAny (model pw w) A (call (.ref f) [.ref l]) Q E s := by
  obtain ⟨a, c', o, pm, doc, _, _, h3, h4, h5, h6⟩ := (G.made (item 19) (by simp [defs])).plain rfl
  have h3' : mg "law" = some (.ref a) := h3
  rw [hf] at h3'
  cases h3'
  refine wpAny_call (call_cellsN_ret (binds := [("script", .ref l)]) (by omega) h4 h5 G.nolimit h6 rfl (fun x hx => ?_) (by decide) (fun h₁ tk cells F N C => ?_) rfl rfl rfl)
  · rw [List.mem_singleton.mp hx]; exact .inl rfl
  · obtain ⟨oA, oB, rfl, hA', hB'⟩ := CellsAre.two C
    refine law_body (s := { s with heap := h₁, toks := tk }) G hh (by rw [depth_deeper]; omega) ?_ F rfl hl hx h63 hA' hB' N ?_
    · rw [Around.deeper_units]; omega
    · intro h' tk' hg
      exact hQ h' tk' hg
end Mine
end
section
open PySem PySem.W PyProof.Rows PySem.Calls
set_option maxRecDepth 100000
set_option linter.unusedVariables false
namespace Mine
theorem sub_range_set : isSubtype (.type "range") (.type "set") = pure false := by rw [isSubtype_type]; kernel_rfl
theorem sub_range_frozenset : isSubtype (.type "range") (.type "frozenset") = pure false := by rw [isSubtype_type]; kernel_rfl
section
variable {prog : Program} {w : World} {A : Around} {E : Value → Shared → Prop} {s : Shared}
set_option maxHeartbeats 3200000 in
/-- a set made of a range (the road of the set made of a list) -/
theorem call_set_range {r : Addr} {a b : Int} {t u v : Tok} {n : Nat} {Q : Value → Shared → Prop}
    (hh : A.handled = none) (hr : IsRange s.heap r a b 1 t u v) (hsm : Builtin.Range.small a b 1 = true) (hn : Builtin.Range.rangeSize a b 1 = (n : Int)) (hb : n + 1 < scanBound)
    (h : ∀ (h' : Heap) (tk : Nat), h'.SetOf (intKind prog w) s.heap.objs.size (fun k' => (firstMet (fun i => a + (i : Int) * 1) n).any (· == k')) (firstMet (fun i => a + (i : Int) * 1) n).length →
      (∀ b o, b < s.heap.objs.size → s.heap.get? b = some o → h'.get? b = some o) → Q (.ref s.heap.objs.size) { s with heap := h', toks := tk }) :
    wpAny (model prog w) A (call (.type "set") [.ref r]) Q E s := by
  obtain ⟨c, tl, hmro⟩ := F.called_set.mro
  have hmade := F.called_set.made
  have hsub := F.called_set.sub
  refine wpAny_call (codeAny_of_tree ?_)
  show wpAny _ _ (callAny (.type "set") _) _ _ _
  refine wpAny_pure ⟨Code.quiet_builtin _ (by decide +kernel), codeAny_builtin F.entry_type_call ?_⟩
  rw [Around.under_plain (weight_type_call_type "set" [.ref r] []) rfl]
  have h1 := F.called_set.notType
  have h2 := F.called_set.canCreate
  have hct := F.typeCall_set_1 (.ref r)
  repeat (any_goals (first | assumption | wp_step))
  refine codeAny_mono (code_set_new_1 (.ref r) (E := E) (Q₁ := fun obj s₁ => ∃ led : Bool, obj = .ref s.heap.objs.size ∧ s₁ = { s with heap := s.heap.push { cls := .type "set", dict := none, data := .set #[] 0 (.fresh 0 0 led) } }) fun led => ⟨led, rfl, rfl⟩) fun r' s₁ hr' => ?_
  cases r' with
  | error e => exact hr'
  | ok fl =>
    cases fl with
    | ret obj =>
      obtain ⟨led, rfl, rfl⟩ := hr'
      have hS : (s.heap.push { cls := .type "set", dict := none, data := .set #[] 0 (.fresh 0 0 led) }).get? s.heap.objs.size = some { cls := .type "set", dict := none, data := .set #[] 0 (.fresh 0 0 led) } := Heap.get?_push_size _ rfl
      have hT : Shared.TypeIs { s with heap := s.heap.push { cls := .type "set", dict := none, data := .set #[] 0 (.fresh 0 0 led) } } (.ref s.heap.objs.size) "set" := ⟨_, hS, rfl⟩
      have hli := F.called_set.init.lookup
      have hbi := F.called_set.init.bind (.ref s.heap.objs.size)
      repeat (any_goals (first | assumption | wp_step))
      refine codeAny_mono (codeAny_call_builtin (R := wants (fun r s₂ => r = .none ∧ ∃ h' tk, s₂ = { s with heap := h', toks := tk } ∧
          h'.SetOf (intKind prog w) s.heap.objs.size (fun k' => (firstMet (fun i => a + (i : Int) * 1) n).any (· == k')) (firstMet (fun i => a + (i : Int) * 1) n).length ∧
          (∀ b o, b < s.heap.objs.size → s.heap.get? b = some o → h'.get? b = some o)) E) F.called_set.init.plain F.entry_set_init (check_set_init_1 hT ?_)) fun r₂ s₂ hr₂ => ?_
      · have hol' : (s.heap.push { cls := .type "set", dict := none, data := .set #[] 0 (.fresh 0 0 led) }).get? r = some { cls := .type "range", dict := none, data := .fields #[.int a t, .int b u, .int 1 v], slots := #[] } := Heap.get?_push_of_some _ hr
        have hsls := sub_range_set
        have hslf := sub_range_frozenset
        have hne : (Value.type "range" == Value.type "dict") = false := by decide
        have hr1 : IsRange (s.heap.push { cls := .type "set", dict := none, data := .set #[] 0 (.fresh 0 0 led) }) r a b 1 t u v := hol'
        unfold Builtin.«set.__init__» noKeywords Builtin.Frozenset.updateFrom
        generalize hPI : pyIter = PI
        wp_walk
        subst hPI
        refine wpAny_pyIter_range hr1 hsm ?_
        refine wpAny_bind (wpAny_runValue ?_)
        have hh3 : A.in1.in1.in1.handled = none := by simp [hh]
        have hSf : s.heap.objs.size ∉ [(s.heap.push { cls := .type "set", dict := none, data := .set #[] 0 (.fresh 0 0 led) }).objs.size] := by
          rw [Heap.size_push]; simp only [List.mem_singleton]
          exact Nat.ne_of_lt (Nat.lt_succ_self _)
        have W := (Walks.range (prog := prog) (w := w) (A := A.in1.in1.in1) hh3 (s.heap.push { cls := .type "set", dict := none, data := .set #[] 0 (.fresh 0 0 led) }).objs.size a 1 n).toS
        refine codeAny_set_update_loopS W s.heap.objs.size hSf (fun i => a + (i : Int) * 1) (fun i v hv => hv) hb (n - 0) 0 _ (by omega) (Nat.zero_le _) ?hst ?hS0 ?hR
        case hst =>
          have q := Heap.get?_push_size (s.heap.push { cls := .type "set", dict := none, data := .set #[] 0 (.fresh 0 0 led) }) (o := { cls := .type "range_iterator", data := .fields #[rawInt a, rawInt (Builtin.Range.rangeSize a b 1), rawInt 1] }) rfl
          show IsRangeIter _ _ _ _ _
          rw [show a + ((0 : Nat) : Int) * 1 = a by omega, show (n : Int) - ((0 : Nat) : Int) = Builtin.Range.rangeSize a b 1 by rw [hn]; omega]
          exact q
        case hS0 =>
          have hget : ((s.heap.push { cls := .type "set", dict := none, data := .set #[] 0 (.fresh 0 0 led) }).push { cls := .type "range_iterator", data := .fields #[rawInt a, rawInt (Builtin.Range.rangeSize a b 1), rawInt 1] }).get? s.heap.objs.size
              = some { cls := .type "set", dict := none, data := .set #[] 0 (.fresh 0 0 led) } := Heap.get?_push_of_some _ hS
          exact SetOf_congr ((setObjOf_fresh (knd := intKind prog w) led).setOf hget (by unfold scanBound; omega)) (fun _ => rfl) rfl
        case hR =>
          intro s' hm hS'
          obtain ⟨h', g', d', tk', os'⟩ := s'
          have eg : g' = s.gens := hm.gens
          have ed : d' = s.drawn := hm.drawn
          have eo : os' = s.os := hm.os
          subst eg; subst ed; subst eo
          show wpAny _ _ _ _ _ _
          refine wpAny_pure ?_
          show wpAny _ _ (ret Value.none) _ _ _
          refine wpAny_pure ⟨rfl, h', tk', rfl, hS', fun b o hb e => ?_⟩
          have hb1 : b ≠ s.heap.objs.size := Nat.ne_of_lt hb
          have hb2 : b ≠ (s.heap.push { cls := .type "set", dict := none, data := .set #[] 0 (.fresh 0 0 led) }).objs.size := by
            rw [Heap.size_push]; exact Nat.ne_of_lt (Nat.lt_succ_of_lt hb)
          exact hm.heap b o (by simp only [List.mem_cons, List.mem_singleton, List.not_mem_nil, or_false, not_or]; exact ⟨hb1, hb2⟩) (Heap.get?_push_of_some _ (Heap.get?_push_of_some _ e))
      · cases r₂ with
        | error e => exact hr₂
        | ok fl₂ =>
          cases fl₂ with
          | ret r =>
            obtain ⟨rfl, h', tk, rfl, hS', hk'⟩ := hr₂
            repeat (any_goals (first | assumption | wp_step))
            exact h _ _ hS' hk'
          | _ => exact hr₂.elim
    | _ => exact hr'.elim
end
end Mine
end
section
open PySem PySem.W PyProof.Rows PySem.Calls
set_option maxRecDepth 100000
set_option linter.unusedVariables false
namespace Mine
/-- the value of the i-th statement, an assignment -/
def valOf (i : Nat) : Expr := match (pw.main.body : List PySem.Stmt)[i]? with
  | some (PySem.Stmt.Assign _ v _) => v
  | _ => .Constant .none 0 default
/-- what a top statement may use -/
structure TopNames (mg mb : Str → Option Value) (h : Heap) : Prop where
  g : h.Ns mainGlobals mg
  b : h.Ns builtinsNs mb
  set : mg "set" = none ∧ mb "set" = some (.type "set")
  list : mg "list" = none ∧ mb "list" = some (.type "list")
  range : mg "range" = none ∧ mb "range" = some (.type "range")
theorem TopNames.keeps {mg mb : Str → Option Value} {h h' : Heap} (x : TopNames mg mb h) (hk : Grows h h') : TopNames mg mb h' := ⟨x.g.keeps hk, x.b.keeps hk, x.set, x.list, x.range⟩
theorem any_contains (l : List Int) (k : Int) : (l.any (· == k)) = l.contains k := by
  induction l with
  | nil => rfl
  | cons a l ih =>
    rw [List.any_cons, List.contains_cons, ih]
    congr 1
    rw [Bool.eq_iff_iff, beq_iff_eq, beq_iff_eq]
    exact eq_comm
section
variable {w : World} {A : Around} {E : Value → Shared → Prop} {s : Shared} {Q : Value → Shared → Prop} {mg mb : Str → Option Value} {c F : Addr}
theorem top_name {x : Str} {pos : Pos} {v : Value} (T : TopNames mg mb s.heap) (h1 : mg x = none) (h2 : mb x = some v) (h : Q v s) (hd : (x == ("__debug__" : Str)) = false := by decide) :
    wpAny (model pw w) A (eval (.Name x pos) (mainEnv pw c F)) Q E s :=
  Name_module rfl rfl (loadGlobal_builtin (env := mainEnv pw c F) T.g h1 T.b h2 h) hd
set_option maxHeartbeats 1000000 in
theorem val_c7 (T : TopNames mg mb s.heap) (hh : A.handled = none)
    (h : ∀ a o h₁ tk, s.heap.objs.size ≤ a → h₁.get? a = some o → IsIntSet w c7L o → Grows s.heap h₁ → Q (.ref a) { s with heap := h₁, toks := tk }) :
    wpAny (model pw w) A (eval (valOf 7) (mainEnv pw c F)) Q E s := by
  conv => arg 3; arg 1; whnf
  walk1
  refine top_name T T.set.1 T.set.2 ?_
  walk1
  walk1
  walk1
  refine top_name T T.range.1 T.range.2 ?_
  iterate 6 walk1
  refine call_range_2 ?_
  walk1
  refine call_set_range (n := 12) (a := 12272) (b := 12284) hh (IsRange.new ..) (by decide) (by decide) (by decide) fun h' tk hS hk => ?_
  obtain ⟨o, ho, hso⟩ := hS.objOf
  refine h _ o h' tk (Nat.le_of_lt (by rw [Heap.size_push]; exact Nat.lt_succ_self _)) ho ⟨_, _, hso, fun k => ?_, by decide⟩ fun b o' e => hk b o' (by rw [Heap.size_push]; exact Nat.lt_succ_of_lt (Heap.lt_size e)) (Heap.get?_push_of_some _ e)
  rw [firstMet_any]
  exact any_contains c7L k
local macro_rules
  | `(tactic| walk_at "to newList") => `(tactic| repeat ((fail_if_success (with_reducible show wpAny _ _ (newList _) _ _ _)); walk1))
local macro_rules
  | `(tactic| walk_at "to top name") => `(tactic| repeat ((fail_if_success (with_reducible show wpAny _ _ (eval (.Name _ _) _) _ _ _)); walk1))
local macro_rules
  | `(tactic| walk_at "to range") => `(tactic| repeat ((fail_if_success (with_reducible show wpAny _ _ (call (.type "range") _) _ _ _)); walk1))
local macro_rules
  | `(tactic| walk_at "to list") => `(tactic| repeat ((fail_if_success (with_reducible show wpAny _ _ (call (.type "list") _) _ _ _)); walk1))
local macro_rules
  | `(tactic| walk_at "to add") => `(tactic| repeat ((fail_if_success (with_reducible show wpAny _ _ (binaryOp .Add (.ref _) (.ref _)) _ _ _)); walk1))
local macro_rules
  | `(tactic| walk_at "to set") => `(tactic| repeat ((fail_if_success (with_reducible show wpAny _ _ (call (.type "set") _) _ _ _)); walk1))
theorem items_ints {a : Int} {n : Nat} {acc : Array Value} (h : ItemsOf (fun i v => ∃ t, v = .int (a + (i : Int) * 1) t) acc n) : IntsAre acc.toList ((List.range n).map fun (i : Nat) => a + (i : Int)) := by
  obtain ⟨hs, hv⟩ := h
  have key : ∀ (l : List Value) (ns : List Int), l.length = ns.length → (∀ (j : Nat) (v : Value) (k : Int), l[j]? = some v → ns[j]? = some k → ∃ t, v = .int k t) → IntsAre l ns := by
    intro l
    induction l with
    | nil => intro ns hl _; cases ns with
      | nil => exact .nil
      | cons _ _ => simp at hl
    | cons v l ih => intro ns hl hj; cases ns with
      | nil => simp at hl
      | cons k ns =>
        obtain ⟨t, rfl⟩ := hj 0 v k rfl rfl
        exact .cons _ _ (ih ns (by simpa using hl) fun j v k h1 h2 => hj (j + 1) v k h1 h2)
  refine key _ _ (by simp [hs]) fun j v k h1 h2 => ?_
  obtain ⟨t, rfl⟩ := hv j v (by simpa using h1)
  have hj : j < n := by rw [← hs]; have := (List.getElem?_eq_some_iff.mp h1).1; simpa using this
  rw [List.getElem?_map, List.getElem?_range hj] at h2
  obtain rfl := Option.some.inj h2
  exact ⟨t, by rw [Int.mul_one]⟩
theorem sum_tail {pos : Pos} {env : Env} {l r : Addr} {its : Array Value} {n0 n : Nat} {ns : List Int} {a b : Int} {t u v : Tok} (hh : A.handled = none) (hl : s.heap.get? l = some { cls := .type "list", dict := none, data := .seq its n0, slots := #[] }) (hi : IntsAre its.toList ns)
    (hr : IsRange s.heap r a b 1 t u v) (hsm : Builtin.Range.small a b 1 = true) (hn : Builtin.Range.rangeSize a b 1 = (n : Int)) (hb : its.size + n + 1 < scanBound)
    (h : ∀ D o h₂ tk, s.heap.objs.size ≤ D → h₂.get? D = some o → IsIntSet w (ns ++ (List.range n).map fun (i : Nat) => a + (i : Int)) o → Grows s.heap h₂ → Q (.ref D) { s with heap := h₂, toks := tk }) :
    wpAny (model pw w) A (call (.type "list") [.ref r]) (fun b s₂ => wpAny (model pw w) A (binaryOp .Add (.ref l) b) (fun v s₃ => wpAny (model pw w) A (spliced (backTo pos (starEach [] env))) (fun vs s₄ => wpAny (model pw w) A (call (.type "set") (v :: vs)) Q E s₄) E s₃) E s₂) E s := by
  unfold scanBound at hb
  refine call_list_range hh hr hsm hn (by omega) fun h' tk acc c' hk hS hacc => ?_
  have hai := items_ints hacc
  have hacs : acc.size = n := hacc.1
  refine P.add_list (hk _ _ hl) hS ?_ (Nat.le_trans (by rw [hacs]; omega : its.size + acc.size ≤ 4096) (by decide))
  refine args_nil ?_
  have hall : IntsAre (its ++ acc).toList (ns ++ (List.range n).map fun (i : Nat) => a + (i : Int)) := by rw [Array.toList_append]; exact intsAre_append hi hai
  have hsz := intsAre_size hall
  have hlt : (ns ++ (List.range n).map fun (i : Nat) => a + (i : Int)).length = its.size + n := by rw [← hsz, Array.size_append, hacs]
  refine call_set_list hh ⟨_, Heap.get?_push_size _ rfl, rfl, 0, rfl⟩ hall (by rw [Array.size_append, hacs]; unfold scanBound; omega) fun h₂ tk₂ hS₂ hk₂ => ?_
  obtain ⟨o, ho, hso⟩ := hS₂.objOf
  have up : Grows s.heap h₂ := fun b o' e => hk₂ b o' (by rw [Heap.size_push]; exact Nat.lt_succ_of_lt (Heap.lt_size (hk b o' e))) (Heap.get?_push_of_some _ (hk b o' e))
  refine h _ o h₂ tk₂ ?_ ho ⟨_, _, hso, fun k => ?_, ?_⟩ up
  · rw [Heap.size_push]
    exact Nat.le_succ_of_le (Nat.le_of_lt (Heap.lt_size hS))
  · rw [firstMet_any, ← any_contains]
    congr 1
    rw [hsz]
    refine List.ext_getElem (by simp) fun i h1 h2 => ?_
    rw [List.getElem_map, List.getElem_range, List.getD_eq_getElem?_getD, List.getElem?_eq_getElem h2]
    rfl
  · have := firstMet_length_le (fun i => (ns ++ (List.range n).map fun (i : Nat) => a + (i : Int)).getD i 0) (its ++ acc).size
    rw [Array.size_append, hacs] at this ⊢
    omega
set_option maxHeartbeats 1000000 in
theorem val_c9 (T : TopNames mg mb s.heap) (hh : A.handled = none)
    (h : ∀ a o h₁ tk, s.heap.objs.size ≤ a → h₁.get? a = some o → IsIntSet w c9L o → Grows s.heap h₁ → Q (.ref a) { s with heap := h₁, toks := tk }) :
    wpAny (model pw w) A (eval (valOf 9) (mainEnv pw c F)) Q E s := by
  conv => arg 3; arg 1; whnf
  walk_at "to top name"
  refine top_name T T.set.1 T.set.2 ?_
  walk_at "to newList"
  refine wpAny_newList ?_
  walk_at "to top name"
  refine top_name (T.keeps fun _ _ e => Heap.get?_push_of_some _ e) T.list.1 T.list.2 ?_
  walk_at "to top name"
  refine top_name (T.keeps fun _ _ e => Heap.get?_push_of_some _ e) T.range.1 T.range.2 ?_
  walk_at "to range"
  refine call_range_2 ?_
  walk_at "to list"
  refine sum_tail (n := 96) hh (Heap.get?_push_of_some _ (Heap.get?_push_size _ rfl)) (.cons _ _ .nil) (IsRange.new ..) (by decide) (by decide) (show 1 + 96 + 1 < 4096 by omega) fun D o h₂ tk hD ho hI hk => ?_
  refine h D o h₂ tk (Nat.le_trans ?_ hD) ho hI fun b o' e => hk b o' (Heap.get?_push_of_some _ (Heap.get?_push_of_some _ e))
  show _ ≤ ((s.heap.push _).push _).objs.size
  rw [Heap.size_push, Heap.size_push]; exact Nat.le_succ_of_le (Nat.le_succ _)
set_option maxHeartbeats 1000000 in
theorem val_b1 (T : TopNames mg mb s.heap) (hh : A.handled = none)
    (h : ∀ a o h₁ tk, s.heap.objs.size ≤ a → h₁.get? a = some o → IsIntSet w b1L o → Grows s.heap h₁ → Q (.ref a) { s with heap := h₁, toks := tk }) :
    wpAny (model pw w) A (eval (valOf 3) (mainEnv pw c F)) Q E s := by
  conv => arg 3; arg 1; whnf
  walk_at "to top name"
  refine top_name T T.set.1 T.set.2 ?_
  walk_at "to newList"
  refine wpAny_newList ?_
  walk_at "to top name"
  refine top_name (T.keeps fun _ _ e => Heap.get?_push_of_some _ e) T.list.1 T.list.2 ?_
  walk_at "to top name"
  refine top_name (T.keeps fun _ _ e => Heap.get?_push_of_some _ e) T.range.1 T.range.2 ?_
  walk_at "to range"
  refine call_range_2 ?_
  walk_at "to list"
  refine sum_tail (n := 16) hh (Heap.get?_push_of_some _ (Heap.get?_push_size _ rfl)) (.cons _ _ (.cons _ _ (.cons _ _ (.cons _ _ (.cons _ _ (.cons _ _ (.cons _ _ (.cons _ _ (.cons _ _ (.cons _ _ (.cons _ _ .nil))))))))))) (IsRange.new ..) (by decide) (by decide) (show 11 + 16 + 1 < 4096 by omega) fun D o h₂ tk hD ho hI hk => ?_
  refine h D o h₂ tk (Nat.le_trans ?_ hD) ho hI fun b o' e => hk b o' (Heap.get?_push_of_some _ (Heap.get?_push_of_some _ e))
  show _ ≤ ((s.heap.push _).push _).objs.size
  rw [Heap.size_push, Heap.size_push]; exact Nat.le_succ_of_le (Nat.le_succ _)
end
end Mine
end
section
open PySem PySem.W PyProof.Rows PySem.Calls
set_option maxRecDepth 100000
set_option linter.unusedVariables false
namespace Mine
section
variable {prog : Program} {w : World} {K : Type} [DecidableEq K] {knd : KeyKind prog w K} {A : Around} {E : Value → Shared → Prop} {s : Shared}
/-- a new key put behind the others -/
theorem put_new {d : Addr} {kvs : List (K × Value)} {k : K} {key v : Value} {Q : Unit → Shared → Prop} (hkey : knd.is k key = true) (hm : s.heap.DictOf knd d kvs) (hnew : k ∉ kvs.map (·.1)) (hsz : kvs.length ≤ sizeLine)
    (hQ : ∀ h', h'.DictOf knd d (kvs ++ [(k, v)]) → Heap.SameBut d s.heap h' → Q () { s with heap := h' }) :
    wpAny (model prog w) A (dictPut d (knd.hash k) key v) Q E s := by
  obtain ⟨o, es, ep, ho, hc, hd, hk, hp, hn⟩ := hm
  have hes : es.size ≤ sizeLine := by
    have e1 := hp.length
    have e2 : es.toList.length = es.size := by simp
    omega
  unfold dictPut
  refine wpAny_bind (wpAny_dictFind_of hkey ho hd hk ?_)
  have hidx : (es.findIdx? fun e => knd.is k e.key) = kvs.findIdx? fun kv => decide (kv.1 = k) := by
    rw [← hp.findIdx k]; obtain ⟨l⟩ := es; simp
  cases hi : es.findIdx? fun e => knd.is k e.key with
  | some i =>
    exfalso
    have := any_of_findIdx_some (hidx ▸ hi)
    obtain ⟨kv, hkv, he⟩ := List.any_eq_true.mp this
    exact hnew (List.mem_map.mpr ⟨kv, hkv, of_decide_eq_true he⟩)
  | none =>
    refine wpAny_updateDictKeys (hz := hes) ho hd (hQ _ ⟨_, _, ep + 1, Heap.get?_update_self _ ho (Obj.isFreed_of_dict (Obj.data_mapDictKeys hd _)), hc.mapDictKeys _, Obj.data_mapDictKeys hd _, hk.push hkey _, ?_, ?_⟩ (Heap.SameBut.update ..))
    · have := hp.append hkey (knd.hash k) v
      obtain ⟨l⟩ := es
      simpa using this
    · rw [List.map_append, List.nodup_append]
      refine ⟨hn, by simp, ?_⟩
      intro a ha b hb
      simp only [List.map_cons, List.map_nil, List.mem_singleton] at hb
      subst hb
      exact fun e => hnew (e ▸ ha)
theorem merge_new {d o : Addr} {kvs more : List (K × Value)} {Q : Unit → Shared → Prop} (hdo : d ≠ o) (hoS : (o == sysModules) = false) (hne : kvs ≠ [])
    (hd : s.heap.DictOf knd d kvs) (ho : s.heap.DictOf knd o more) (hnd : ((kvs ++ more).map (·.1)).Nodup) (hsz : kvs.length + more.length ≤ sizeLine)
    (hQ : ∀ h', h'.DictOf knd d (kvs ++ more) → Heap.SameBut d s.heap h' → Q () { s with heap := h' }) :
    wpAny (model prog w) A (mergeMapping d (.ref o) false) Q E s := by
  obtain ⟨od, esd, epd, hod, hcd, hdd, hkd, hpd, hnd'⟩ := id hd
  obtain ⟨oo, eso, epo, hoo, hco, hdo', hko, hpo, hno⟩ := id ho
  have hlen : more.length = eso.size := by rw [← hpo.length]; simp
  unfold mergeMapping
  refine wpAny_bind (wpAny_isInstance ho.typeIs isSubtype_dict_dict ?_)
  simp only [if_true]
  refine wpAny_bind (wpAny_specialOf ho.typeIs F.slot_dict_iter.lookup ?_)
  simp only [beq_self_eq_true]
  refine wpAny_bind (wpAny_pure ?_)
  simp only [hoS, Bool.false_eq_true, if_false]
  refine wpAny_bind (wpAny_dictEntries hod hdd ?_)
  have hnemp : esd.isEmpty = false := by
    cases he : esd.isEmpty with
    | false => rfl
    | true =>
      exfalso
      apply hne
      have h0 : esd = #[] := Array.isEmpty_iff.mp he
      have := hpd.length
      rw [h0] at this
      exact List.length_eq_zero_iff.mp (by simpa using this.symm)
  simp only [hnemp, Bool.false_eq_true, if_false]
  refine wpAny_bind (wpAny_dictEntries hoo hdo' ?_)
  refine wpAny_bind (wpAny_dictEpoch hoo hdo' ?_)
  refine wpAny_bind ?_
  refine wpAny_forIn_list _
    (fun rest _ s' => ∃ h' i, s' = { s with heap := h' } ∧ rest = List.range' i (eso.size - i) ∧ i ≤ eso.size ∧ h'.DictOf knd d (kvs ++ more.take i) ∧ h'.get? o = some oo ∧ Heap.SameBut d s.heap h')
    _ ?_ ?_ _ _ ⟨s.heap, 0, rfl, by rw [List.range_eq_range']; rfl, Nat.zero_le _, by simpa using hd, hoo, Heap.SameBut.refl _ _⟩
  · rintro x rest b s' ⟨h', i, rfl, hr, hi, hd', hoo', hs'⟩
    have hlt : i < eso.size := by
      rcases Nat.lt_or_ge i eso.size with h | h
      · exact h
      · rw [Nat.sub_eq_zero_of_le h] at hr; simp at hr
    obtain ⟨rfl, hrest⟩ : x = i ∧ rest = List.range' (i + 1) (eso.size - (i + 1)) := by
      have e : eso.size - i = (eso.size - (i + 1)) + 1 := by omega
      rw [e, List.range'_succ] at hr
      injection hr with h1 h2
      exact ⟨h1, h2⟩
    refine wpAny_bind (wpAny_dictEntries hoo' hdo' ?_)
    rw [Array.getElem?_eq_getElem hlt]
    have hxm : x < more.length := by rw [hlen]; exact hlt
    obtain ⟨hkey, hval⟩ := hpo.get? (e := eso[x]) (by simp [hlt]) (List.getElem?_eq_getElem hxm)
    obtain ⟨k', hkey', hhash⟩ := hko eso[x] (Array.getElem_mem hlt)
    obtain rfl : k' = more[x].1 := knd.inj _ _ _ hkey' hkey
    show wpAny _ _ (holding [eso[x].key, eso[x].val] (dictPut d eso[x].hash eso[x].key eso[x].val) >>= _) _ _ _
    rw [hhash, hval]
    have htk : more.take (x + 1) = more.take x ++ [more[x]] := by rw [List.take_add_one, List.getElem?_eq_getElem hxm]; rfl
    have hnn : more[x].1 ∉ (kvs ++ more.take x).map (·.1) := by
      have h1 : ((kvs ++ more.take (x + 1)).map (·.1)).Nodup := by
        have h2 : (kvs ++ more.take (x + 1)).map (·.1) <+: (kvs ++ more).map (·.1) := by
          refine List.IsPrefix.map _ ⟨more.drop (x + 1), ?_⟩
          rw [List.append_assoc, List.take_append_drop]
        exact List.Nodup.sublist h2.sublist hnd
      rw [htk, ← List.append_assoc, List.map_append, List.nodup_append] at h1
      intro hm
      exact h1.2.2 _ hm _ (by simp) rfl
    have hsz' : (kvs ++ more.take x).length ≤ sizeLine := by
      rw [List.length_append, List.length_take]; omega
    refine wpAny_bind (wpAny_holding (put_new hkey hd' hnn hsz' fun h'' hd'' hs'' => ?_))
    have hoo'' : h''.get? o = some oo := (hs''.2 o (Ne.symm hdo)).trans hoo'
    refine wpAny_bind (wpAny_dictEpoch hoo'' hdo' ?_)
    rw [if_neg (by simp)]
    exact wpAny_pure ⟨h'', x + 1, rfl, hrest, hlt, by rw [htk, ← List.append_assoc]; exact hd'', hoo'', hs'.trans hs''⟩
  · rintro b s' ⟨h', i, rfl, hr, hi, hd', hoo', hs'⟩
    have hin : i = eso.size := by
      rcases Nat.lt_or_ge i eso.size with h | h
      · have e : eso.size - i = (eso.size - (i + 1)) + 1 := by omega
        rw [e, List.range'_succ] at hr; exact nomatch hr
      · exact Nat.le_antisymm hi h
    refine wpAny_pure (hQ h' ?_ hs')
    rw [hin, ← hlen, List.take_length] at hd'; exact hd'
end
end Mine
end
section
open PySem PySem.W PyProof.Rows PySem.Calls PyProof.V
set_option maxRecDepth 100000
set_option linter.unusedVariables false
namespace Mine
section
variable {w : World} {A : Around} {E : Value → Shared → Prop}
structure LitPair (w : World) (A : Around) (E : Value → Shared → Prop) (p : Sem Value × Sem Value) (q : Int × PyData) : Prop where
  key : ∀ (s : Shared) (Q : Value → Shared → Prop), (∀ t tk, Q (.int q.1 t) { s with toks := tk }) → wpAny (model pw w) A p.1 Q E s
  val : ∀ (s : Shared) (Q : Value → Shared → Prop), (∀ v tk, Flat v q.2 → Q v { s with toks := tk }) → wpAny (model pw w) A p.2 Q E s
inductive Lits (w : World) (A : Around) (E : Value → Shared → Prop) : List (Sem Value × Sem Value) → List (Int × PyData) → Prop
  | nil : Lits w A E [] []
  | cons {p : Sem Value × Sem Value} {q : Int × PyData} {ps : List (Sem Value × Sem Value)} {qs : List (Int × PyData)} : LitPair w A E p q → Lits w A E ps qs → Lits w A E (p :: ps) (q :: qs)
inductive KV : List (Int × Value) → List (Int × PyData) → Prop
  | nil : KV [] []
  | cons {k : Int} {v : Value} {d : PyData} {kvs : List (Int × Value)} {qs : List (Int × PyData)} : Flat v d → KV kvs qs → KV ((k, v) :: kvs) ((k, d) :: qs)
theorem KV.keys : ∀ {kvs : List (Int × Value)} {qs : List (Int × PyData)}, KV kvs qs → kvs.map (·.1) = qs.map (·.1)
  | _, _, .nil => rfl
  | _, _, .cons _ r => by rw [List.map_cons, List.map_cons, r.keys]
theorem KV.append : ∀ {a b : List (Int × Value)} {x y : List (Int × PyData)}, KV a x → KV b y → KV (a ++ b) (x ++ y)
  | _, _, _, _, .nil, h => h
  | _, _, _, _, .cons f r, h => .cons f (r.append h)
theorem KV.len {kvs : List (Int × Value)} {qs : List (Int × PyData)} (h : KV kvs qs) : kvs.length = qs.length := by
  have := congrArg List.length h.keys
  simpa using this
theorem Lits.len : ∀ {ps : List (Sem Value × Sem Value)} {qs : List (Int × PyData)}, Lits w A E ps qs → ps.length = qs.length
  | _, _, .nil => rfl
  | _, _, .cons _ r => by rw [List.length_cons, List.length_cons, r.len]
theorem Lits.snoc : ∀ {ps : List (Sem Value × Sem Value)} {qs : List (Int × PyData)} {p : Sem Value × Sem Value} {q : Int × PyData}, Lits w A E ps qs → LitPair w A E p q → Lits w A E (ps ++ [p]) (qs ++ [q])
  | _, _, _, _, .nil, h => .cons h .nil
  | _, _, _, _, .cons f r, h => .cons f (r.snoc h)
/-- the short road: all are read, then put -/
theorem pairs_lits : ∀ {ps : List (Sem Value × Sem Value)} {qs : List (Int × PyData)} (s : Shared) (Q : List (Value × Value) → Shared → Prop), Lits w A E ps qs →
    (∀ vs kvs tk, Carries (intKind pw w) vs kvs → KV kvs qs → Q vs { s with toks := tk }) → wpAny (model pw w) A (evalPairs ps) Q E s
  | _, _, s, Q, .nil, h => evalPairs_nil (h [] [] s.toks trivial .nil)
  | _, _, s, Q, .cons (q := q) f r, h => by
    refine evalPairs_cons (f.key s _ fun t tk => f.val _ _ fun v tk₂ fv => ?_)
    exact pairs_lits _ _ r fun vs kvs tk₃ hc hk => h _ ((q.1, v) :: kvs) tk₃ ⟨intKind_is _ _ _ _, rfl, hc⟩ (.cons fv hk)
/-- the long road: each is read and put in turn -/
theorem long_lits {d : Addr} : ∀ {ps : List (Sem Value × Sem Value)} {qs : List (Int × PyData)} (acc : List (Int × Value)) (s : Shared) (Q : PUnit → Shared → Prop), Lits w A E ps qs → s.heap.DictOf (intKind pw w) d acc → acc.length + qs.length ≤ sizeLine →
    (acc.map (·.1) ++ qs.map (·.1)).Nodup →
    (∀ kvs h' tk, KV kvs qs → h'.DictOf (intKind pw w) d (acc ++ kvs) → Heap.SameBut d s.heap h' → Q PUnit.unit { s with heap := h', toks := tk }) →
    wpAny (model pw w) A (forIn ps PUnit.unit fun (x : Sem Value × Sem Value) (_ : PUnit) => (do let kv ← x.1; let vv ← holding [kv] x.2; holding [kv, vv] (dictSet d kv vv); pure (ForInStep.yield PUnit.unit) : Sem (ForInStep PUnit))) Q E s
  | _, _, acc, s, Q, .nil, hm, _, _, h => by
    rw [List.forIn_nil]
    exact wpAny_pure (h [] s.heap s.toks .nil (by simpa using hm) (Heap.SameBut.refl _ _))
  | _, _, acc, s, Q, .cons (q := q) f r, hm, hsz, hnd, h => by
    rw [List.forIn_cons]
    refine wpAny_bind (wpAny_bind (f.key s _ fun t tk => ?_))
    refine wpAny_bind (wpAny_holding (f.val _ _ fun v tk₂ fv => ?_))
    rw [List.length_cons] at hsz
    have hnew : q.1 ∉ acc.map (·.1) := by
      rw [List.map_cons, List.nodup_append] at hnd
      intro hm
      exact hnd.2.2 _ hm _ (.head _) rfl
    have hst : stored acc q.1 v = acc ++ [(q.1, v)] := by
      unfold stored
      rw [if_neg]
      rw [List.any_eq_true]
      rintro ⟨kv, hkv, he⟩
      exact hnew (List.mem_map.mpr ⟨kv, hkv, of_decide_eq_true he⟩)
    refine wpAny_bind (wpAny_holding (wpAny_dictSet_pairs (knd := intKind pw w) (k := q.1) (hsz := by omega) (intKind_is _ _ _ _) hm fun h₁ hm₁ hs₁ => wpAny_pure ?_))
    rw [hst] at hm₁
    refine long_lits (acc ++ [(q.1, v)]) _ Q r hm₁ (by rw [List.length_append, List.length_singleton]; omega) ?_ fun kvs h' tk' hk hm' hs' => ?_
    · rw [List.map_append, List.append_assoc]; exact hnd
    · have := h ((q.1, v) :: kvs) h' tk' (.cons fv hk) (by rw [List.append_assoc] at hm'; exact hm') (hs₁.trans hs')
      exact this
theorem sub_lits {ps : List (Sem Value × Sem Value)} {qs : List (Int × PyData)} {s : Shared} {Q : Addr → Shared → Prop} (hl : Lits w A E ps qs) (hnd : (qs.map (·.1)).Nodup) (hsz : qs.length ≤ 1000)
    (h : ∀ kvs h' tk, KV kvs qs → h'.DictOf (intKind pw w) s.heap.objs.size kvs → Grows s.heap h' → h'.objs.size = s.heap.objs.size + 1 → Q s.heap.objs.size { s with heap := h', toks := tk }) :
    wpAny (model pw w) A (subDict ps) Q E s := by
  have up : ∀ h', Heap.SameBut s.heap.objs.size (s.heap.push { cls := .type "dict", data := .dict #[] }) h' → Grows s.heap h' ∧ h'.objs.size = s.heap.objs.size + 1 := fun h' hs =>
    ⟨fun b o e => (hs.2 b (Nat.ne_of_lt (Heap.lt_size e))).trans (Heap.get?_push_of_some _ e), by rw [hs.1, Heap.size_push]⟩
  by_cases hlen : ps.length ≤ 15
  · refine wpAny_subDict (knd := intKind pw w) hlen (pairs_lits _ _ hl fun vs kvs tk hc hk => ?_)
    refine ⟨kvs, hc, Heap.DictOf.new _, fun h' hm hs => ?_⟩
    rw [merged_nil_of_nodup _ (by rw [hk.keys]; exact hnd)] at hm
    exact h kvs h' _ hk hm (up h' hs).1 (up h' hs).2
  · unfold subDict
    refine wpAny_bind (wpAny_alloc ?_)
    refine wpAny_bind (wpAny_holding ?_)
    rw [if_neg hlen]
    refine wpAny_bind (wpAny_rule ?_)
    refine wpAny_bind (long_lits (d := s.heap.objs.size) [] _ _ hl (Heap.DictOf.new _) (Nat.le_trans (by rw [List.length_nil]; omega) (by decide : 1000 ≤ sizeLine)) (by simpa using hnd) fun kvs h' tk hk hm hs => ?_)
    refine wpAny_pure (wpAny_pure ?_)
    exact h kvs h' tk hk (by simpa using hm) (up h' hs).1 (up h' hs).2
end
end Mine
end
section
open PySem PySem.W PyProof.Rows PySem.Calls PyProof.V
set_option maxRecDepth 100000
set_option linter.unusedVariables false
namespace Mine
section
variable {w : World} {A : Around} {E : Value → Shared → Prop}
def MainAt (w : World) (n0 : Nat) (main : Option Addr) (h : Heap) (acc : List (Int × Value)) : Prop := match main with
  | none => acc = []
  | some d => n0 ≤ d ∧ h.DictOf (intKind pw w) d acc ∧ acc ≠ []
theorem flush_none {run : List (Sem Value × Sem Value)} {qr : List (Int × PyData)} {s : Shared} {Q : Option Addr → Shared → Prop} (hl : Lits w A E run qr) (hnd : (qr.map (·.1)).Nodup) (hsz : qr.length ≤ 1000) (hne : run ≠ [])
    (h : ∀ d kvs h' tk, KV kvs qr → s.heap.objs.size ≤ d → h'.DictOf (intKind pw w) d kvs → kvs ≠ [] → Grows s.heap h' → s.heap.objs.size ≤ h'.objs.size → Q (some d) { s with heap := h', toks := tk }) :
    wpAny (model pw w) A (do let x ← subDict run; pure (some x)) Q E s := by
  refine wpAny_bind (sub_lits hl hnd hsz fun kvs h' tk hk hm hg hz => wpAny_pure (h _ kvs h' tk hk (Nat.le_refl _) hm ?_ hg (by rw [hz]; exact Nat.le_succ _)))
  intro e
  have h1 := hk.len
  have h2 := hl.len
  rw [e] at h1
  exact hne (List.length_eq_zero_iff.mp (by rw [h2, ← h1]; rfl))
theorem flush_some {run : List (Sem Value × Sem Value)} {qa qr : List (Int × PyData)} {acc : List (Int × Value)} {s : Shared} {d : Addr} {k : Addr → Value → Sem Unit} {Q : Option Addr → Shared → Prop} (hl : Lits w A E run qr) (ha : KV acc qa) (hm : s.heap.DictOf (intKind pw w) d acc) (hne : acc ≠ [])
    (hnd : ((qa ++ qr).map (·.1)).Nodup) (hsz : (qa ++ qr).length ≤ 1000) (hS : sysModules < s.heap.objs.size)
    (h : ∀ kvs h' tk, KV kvs qr → h'.DictOf (intKind pw w) d (acc ++ kvs) → (∀ b o, b ≠ d → s.heap.get? b = some o → h'.get? b = some o) → s.heap.objs.size ≤ h'.objs.size → Q (some d) { s with heap := h', toks := tk }) :
    wpAny (model pw w) A (do let sub ← holding [Value.ref d] (subDict run); (holding [Value.ref d, Value.ref sub] (mergeMapping d (.ref sub) false)).onRaise (k sub); pure (some d)) Q E s := by
  rw [List.length_append] at hsz
  have hnr : (qr.map (·.1)).Nodup := by rw [List.map_append, List.nodup_append] at hnd; exact hnd.2.1
  have hdlt : d < s.heap.objs.size := by obtain ⟨o, _, _, e, _⟩ := hm; exact Heap.lt_size e
  refine wpAny_bind (wpAny_holding (sub_lits hl hnr (by omega) fun kvs h' tk hk hm' hg hz => ?_))
  have hmd : h'.DictOf (intKind pw w) d acc := by
    obtain ⟨o, es, ep, e, r⟩ := hm
    exact ⟨o, es, ep, hg _ _ e, r⟩
  refine wpAny_bind (wpAny_onRaise (wpAny_holding (merge_new (Nat.ne_of_lt hdlt) (beq_eq_false_iff_ne.mpr (Nat.ne_of_gt hS)) hne hmd hm' ?_ ?_ fun h'' hm'' hs'' => wpAny_pure ?_)))
  · rw [List.map_append, ha.keys, hk.keys, ← List.map_append]; exact hnd
  · rw [ha.len, hk.len]; exact Nat.le_trans hsz (by decide)
  · exact h kvs h'' tk hk hm'' (fun b o hb e => (hs''.2 b hb).trans (hg b o e)) (by rw [hs''.1]; show _ ≤ h'.objs.size; rw [hz]; exact Nat.le_succ _)
/-- a display of literal pairs, however long -/
theorem disp {ps : List (Sem Value × Sem Value)} {qs : List (Int × PyData)} {s : Shared} {Q : Value → Shared → Prop} (hl : Lits w A E ps qs) (h0 : ps ≠ []) (hnd : (qs.map (·.1)).Nodup) (hsz : qs.length ≤ 1000) (hS : sysModules < s.heap.objs.size)
    (h : ∀ d kvs h' tk, KV kvs qs → s.heap.objs.size ≤ d → h'.DictOf (intKind pw w) d kvs → Grows s.heap h' → Q (.ref d) { s with heap := h', toks := tk }) :
    wpAny (model pw w) A (dictDisplay (ps.map fun p => (some p.1, p.2))) Q E s := by
  unfold dictDisplay
  dsimp only
  refine wpAny_bind ?_
  refine wpAny_forIn_list _ (fun rest (b : Option Addr × List (Sem Value × Sem Value)) s' => ∃ h' tk acc qa qr qi psr, s' = { s with heap := h', toks := tk } ∧ rest = psr.map (fun p => (some p.1, p.2)) ∧ Lits w A E psr qi ∧ Lits w A E b.2 qr ∧ qa ++ qr ++ qi = qs ∧ KV acc qa ∧ b.2.length < 17 ∧
      Grows s.heap h' ∧ s.heap.objs.size ≤ h'.objs.size ∧ MainAt w s.heap.objs.size b.1 h' acc) _ ?_ ?_ _ _ ⟨s.heap, s.toks, [], [], [], qs, ps, rfl, rfl, hl, .nil, rfl, .nil, Nat.succ_pos _, fun _ _ e => e, Nat.le_refl _, rfl⟩
  · rintro x rest ⟨main, run⟩ s' ⟨h', tk, acc, qa, qr, qi, psr, rfl, hrest, hi, hr, hq, ha, hlt, hg, hgz, hM⟩
    cases hi with
    | nil => cases hrest
    | @cons p q psr' qi' f r =>
      obtain ⟨rfl, rfl⟩ : x = (some p.1, p.2) ∧ rest = psr'.map (fun p => (some p.1, p.2)) := by
        rw [List.map_cons] at hrest; injection hrest with e1 e2; exact ⟨e1, e2⟩
      dsimp only at hr hlt hM ⊢
      have hr' := hr.snoc f
      have hq' : qa ++ (qr ++ [q]) ++ qi' = qs := by rw [← hq]; simp
      by_cases hfull : (run ++ [(p.1, p.2)]).length = 17
      · rw [if_pos (by rw [hfull]; rfl)]
        have hrn : run ++ [(p.1, p.2)] ≠ [] := by simp
        have hqn : ((qa ++ (qr ++ [q])).map (·.1)).Nodup := by
          rw [← hq', List.map_append, List.nodup_append] at hnd; exact hnd.1
        have hql : (qa ++ (qr ++ [q])).length ≤ 1000 := by
          rw [← hq', List.length_append] at hsz; omega
        refine wpAny_bind ?_
        rw [if_neg (by simp)]
        cases main with
        | none =>
          have hacc : acc = [] := hM
          subst hacc
          cases ha
          refine flush_none hr' (by simpa using hqn) (by simpa using hql) hrn fun d kvs h'' tk' hk hd hm hne hg' hz => wpAny_pure ?_
          exact ⟨h'', tk', kvs, qr ++ [q], [], qi', psr', rfl, rfl, r, .nil, by rw [List.append_nil]; simpa using hq', hk, Nat.succ_pos _, fun b o e => hg' b o (hg b o e), Nat.le_trans hgz hz, Nat.le_trans hgz hd, hm, hne⟩
        | some d =>
          obtain ⟨hd, hm, hne⟩ := hM
          refine flush_some (k := _) hr' ha hm hne hqn hql (Nat.lt_of_lt_of_le hS hgz) fun kvs h'' tk' hk hm' hg' hz => wpAny_pure ?_
          · exact ⟨h'', tk', acc ++ kvs, qa ++ (qr ++ [q]), [], qi', psr', rfl, rfl, r, .nil, by rw [List.append_nil]; exact hq', ha.append hk, Nat.succ_pos _, fun b o e => hg' b o (fun hb => Nat.lt_irrefl _ (Nat.lt_of_lt_of_le (Heap.lt_size e) (hb ▸ hd))) (hg b o e), Nat.le_trans hgz hz, hd, hm', by simp [hne]⟩
      · rw [if_neg (by simpa using hfull)]
        refine wpAny_pure ⟨h', tk, acc, qa, qr ++ [q], qi', psr', rfl, rfl, r, hr', hq', ha, ?_, hg, hgz, hM⟩
        rw [List.length_append, List.length_singleton] at hfull ⊢
        omega
  · rintro ⟨main, run⟩ s' ⟨h', tk, acc, qa, qr, qi, psr, rfl, hrest, hi, hr, hq, ha, hlt, hg, hgz, hM⟩
    have hi0 : qi = [] := by
      cases hi with
      | nil => rfl
      | cons _ _ => cases hrest
    subst hi0
    rw [List.append_nil] at hq
    dsimp only at hr hlt hM ⊢
    have hqs0 : qs ≠ [] := by
      intro e
      have := hl.len
      rw [e] at this
      exact h0 (List.length_eq_zero_iff.mp this)
    refine wpAny_bind ?_
    by_cases hre : run = []
    · subst hre
      cases hr
      rw [List.append_nil] at hq
      subst hq
      rw [if_pos (show ([] : List (Sem Value × Sem Value)).isEmpty = true from rfl)]
      cases main with
      | none =>
        exfalso
        have hacc : acc = [] := hM
        subst hacc
        cases ha
        exact hqs0 rfl
      | some d =>
        obtain ⟨hd, hm, hne⟩ := hM
        exact wpAny_pure (wpAny_pure (h d acc h' tk ha hd hm hg))
    · rw [if_neg (by simpa using hre)]
      cases main with
      | none =>
        have hacc : acc = [] := hM
        subst hacc
        cases ha
        rw [List.nil_append] at hq
        subst hq
        exact flush_none hr hnd hsz hre fun d kvs h'' tk' hk hd hm hne hg' hz => wpAny_pure (h d kvs h'' tk' hk (Nat.le_trans hgz hd) hm fun b o e => hg' b o (hg b o e))
      | some d =>
        obtain ⟨hd, hm, hne⟩ := hM
        rw [← hq] at hnd hsz
        refine flush_some hr ha hm hne hnd hsz (Nat.lt_of_lt_of_le hS hgz) fun kvs h'' tk' hk hm' hg' hz => wpAny_pure ?_
        exact h d (acc ++ kvs) h'' tk' (by rw [← hq]; exact ha.append hk) hd hm' fun b o e => hg' b o (fun hb => Nat.lt_irrefl _ (Nat.lt_of_lt_of_le (Heap.lt_size e) (hb ▸ hd))) (hg b o e)
end
end Mine
end
section
open PySem PySem.W PyProof.Rows PySem.Calls PyProof.V
set_option maxRecDepth 100000
set_option linter.unusedVariables false
namespace Mine
def intQs : List (PyData × PyData) → List (Int × PyData)
  | (.int i, d) :: r => (i, d) :: intQs r
  | _ => []
section
variable {w : World} {A : Around} {E : Value → Shared → Prop} {env : Env} {pos : Pos}
theorem lits_of : ∀ (keys : List (Option Expr)) (values : List Expr) (D : List (PyData × PyData)), litPairs keys values = some D → intKeyed D = true → Lits w A E (pairTrees keys values env pos) (intQs D)
  | [], [], D, hD, _ => by cases hD; exact .nil
  | some k :: ks, v :: vs, D, hD, hi => by
    simp only [litPairs, Option.bind_eq_bind, Option.pure_def] at hD
    cases hk : tabLit k with
    | none => simp [hk] at hD
    | some dk =>
      cases hv : tabLit v with
      | none => simp [hk, hv] at hD
      | some dv =>
        cases hr : litPairs ks vs with
        | none => simp [hk, hv, hr] at hD
        | some r =>
          simp only [hk, hv, hr, Option.bind_some, Option.some.injEq] at hD
          subst hD
          cases dk with
          | int i =>
            refine .cons ⟨fun s Q h => eval_lit hk fun x tk fx => ?_, fun s Q h => wpAny_bind (eval_lit hv fun x tk fx => wpAny_bind (wpAny_standAt (wpAny_pure (h x tk fx))))⟩ (lits_of ks vs r hr hi)
            obtain ⟨t, rfl⟩ := fx.int_inv
            exact h t tk
          | none | bool _ | str _ | list _ | tuple _ | dict _ => simp [intKeyed] at hi
  | [], _ :: _, _, hD, _ => by simp [litPairs] at hD
  | none :: _, _, _, hD, _ => by simp [litPairs] at hD
  | some _ :: _, [], _, hD, _ => by simp [litPairs] at hD
theorem kv_flat : ∀ (D : List (PyData × PyData)) (kvs : List (Int × Value)), intKeyed D = true → KV kvs (intQs D) → FlatPairs PyData.int kvs D
  | [], kvs, _, h => by cases h; exact .nil
  | (dk, dv) :: D, kvs, hi, h => by
    cases dk with
    | int i =>
      cases h with
      | cons f r => exact .cons f (kv_flat D _ hi r)
    | none | bool _ | str _ | list _ | tuple _ | dict _ => simp [intKeyed] at hi
@[irreducible] def dictKeys : List (Option Expr) := match valOf 5 with | .Dict ks _ _ => ks | _ => []
@[irreducible] def dictVals : List Expr := match valOf 5 with | .Dict _ vs _ => vs | _ => []
@[irreducible] def dictPos : Pos := match valOf 5 with | .Dict _ _ p => p | _ => default
theorem dict_is : valOf 5 = .Dict dictKeys dictVals dictPos := by kernel_rfl
theorem dict_lits : litPairs dictKeys dictVals = some b3D := by kernel_rfl
theorem dict_all : dictKeys.all (·.isSome) = true := by decide +kernel
theorem dict_len : dictKeys.length = dictVals.length := by decide +kernel
theorem dict_ne : (pairTrees dictKeys dictVals env pos) ≠ [] := by
  intro e
  have := congrArg List.length e
  rw [pairTrees_length dictKeys dictVals env pos dict_all dict_len] at this
  exact absurd this (by decide +kernel)
theorem b3_int : intKeyed b3D = true := by decide +kernel
def rising : List Int → Bool
  | a :: b :: r => decide (a < b) && rising (b :: r)
  | _ => true
theorem rising_lt : ∀ (r : List Int) (a : Int), rising (a :: r) = true → (∀ x ∈ r, a < x) ∧ r.Nodup
  | [], a, _ => ⟨(fun _ h => nomatch h), .nil⟩
  | b :: r, a, h => by
    simp only [rising, Bool.and_eq_true, decide_eq_true_eq] at h
    obtain ⟨h1, h2⟩ := rising_lt r b h.2
    refine ⟨fun x hx => ?_, List.nodup_cons.mpr ⟨fun hb => Int.lt_irrefl b (h1 b hb), h2⟩⟩
    rcases List.mem_cons.mp hx with rfl | hx
    · exact h.1
    · exact Int.lt_trans h.1 (h1 x hx)
theorem nodup_rising : ∀ (l : List Int), rising l = true → l.Nodup
  | [], _ => .nil
  | a :: r, h => by
    obtain ⟨h1, h2⟩ := rising_lt r a h
    exact List.nodup_cons.mpr ⟨fun hb => Int.lt_irrefl a (h1 a hb), h2⟩
theorem b3_rising : rising ((intQs b3D).map (·.1)) = true := by decide +kernel
theorem b3_nodup : ((intQs b3D).map (·.1)).Nodup := nodup_rising _ b3_rising
theorem b3_len : (intQs b3D).length ≤ 1000 := by decide +kernel
end
end Mine
end
section
open PySem PySem.W PyProof.Rows PySem.Calls PyProof.V
set_option maxRecDepth 100000
set_option linter.unusedVariables false
namespace Mine
theorem val_dict {w : World} {A : Around} {E : Value → Shared → Prop} {env : Env} {s : Shared} {Q : Value → Shared → Prop} (keys : List (Option Expr)) (values : List Expr) (pos : Pos) (D : List (PyData × PyData)) (hD : litPairs keys values = some D) (hi : intKeyed D = true)
    (hall : keys.all (·.isSome) = true) (hlen : keys.length = values.length) (hne : pairTrees keys values env pos ≠ []) (hnd : ((intQs D).map (·.1)).Nodup) (hsz : (intQs D).length ≤ 1000) (hS : sysModules < s.heap.objs.size)
    (h : ∀ a o h₁ tk, s.heap.objs.size ≤ a → h₁.get? a = some o → TabObj (intKind pw w) PyData.int D o → Grows s.heap h₁ → Q (.ref a) { s with heap := h₁, toks := tk }) :
    wpAny (model pw w) A (eval (.Dict keys values pos) env) Q E s := by
  rw [arm_eval_Dict, zip_pairTrees keys values env pos hall hlen]
  refine wpAny_bind (wpAny_standAt ?_)
  refine disp (lits_of keys values D hD hi) hne hnd hsz hS fun d kvs h' tk hk hd hm hg => ?_
  obtain ⟨o, ho, hdo⟩ := Heap.dictOf_iff.mp hm
  exact h d o h' tk hd ho ⟨kvs, hdo, kv_flat D kvs hi hk⟩ hg
theorem val_b3 {w : World} {A : Around} {E : Value → Shared → Prop} {env : Env} {s : Shared} {Q : Value → Shared → Prop} (hS : sysModules < s.heap.objs.size)
    (h : ∀ a o h₁ tk, s.heap.objs.size ≤ a → h₁.get? a = some o → TabObj (intKind pw w) PyData.int b3D o → Grows s.heap h₁ → Q (.ref a) { s with heap := h₁, toks := tk }) :
    wpAny (model pw w) A (eval (.Dict dictKeys dictVals dictPos) env) Q E s :=
  val_dict dictKeys dictVals dictPos b3D dict_lits b3_int dict_all dict_len (dict_ne (env := env) (pos := dictPos)) b3_nodup b3_len hS h
end Mine
end
section
open PySem PySem.W PyProof.Rows PySem.Calls PyProof.V
set_option maxRecDepth 100000
set_option linter.unusedVariables false
namespace Mine
section
variable {c Pl : Addr} {h₀ h : Heap} {mg₀ mg : Str → Option Value} {ps : Array Value} {ds : List DefItem} {cs : List (Str × PyData)} {os : List (Str × (Obj → Prop))} {ns ns' : List Str}
theorem mod_start (hm : h.Main mg c Pl #[]) (hP : Pl < h.objs.size) : Mod h mg c Pl h mg #[] [] [] [] [] :=
  ⟨hm, fun _ _ _ _ e => e, (fun _ hd => nomatch hd), (fun _ hp => nomatch hp), fun _ _ => rfl, (fun _ hd => nomatch hd), (fun _ hp => nomatch hp), (fun _ hp => nomatch hp), (fun _ hp => nomatch hp), Nat.le_refl _, hP, hm.g.lt, (fun _ hd => nomatch hd)⟩
/-- a name that is no def and no object is let out of the list -/
theorem mod_relax (x : Str) (X : Mod h₀ mg₀ c Pl h mg ps ds cs os (x :: ns)) (hd : ∀ d ∈ ds, d.name ∈ ns) (ho : ∀ p ∈ os, p.1 ∈ ns) :
    Mod h₀ (fun y => if y = x then mg y else mg₀ y) c Pl h mg ps ds [] os ns :=
  ⟨X.main, X.keep, X.made, (fun _ hp => nomatch hp), fun y hy => by
    by_cases e : y = x
    · rw [if_pos e]
    · rw [if_neg e]
      exact X.others y fun hm => by
        rcases List.mem_cons.mp hm with h | h
        · exact e h
        · exact hy h, hd, (fun _ hp => nomatch hp), X.held, ho, X.grows, X.lowP, X.lowG, X.tabs⟩
end
end Mine
end
section
open PySem PySem.W PyProof.Rows PySem.Calls PyProof.V
set_option maxRecDepth 100000
set_option linter.unusedVariables false
namespace Mine
structure Base (mg₀ mb : Str → Option Value) (h₀ : Heap) (Pl : Addr) : Prop where
  b : h₀.Ns builtinsNs mb
  bP : builtinsNs ≠ Pl
  set : mg₀ "set" = none ∧ mb "set" = some (.type "set")
  list : mg₀ "list" = none ∧ mb "list" = some (.type "list")
  range : mg₀ "range" = none ∧ mb "range" = some (.type "range")
  sys : sysModules < h₀.objs.size
section
variable {w : World} {A : Around} {E : Value → Shared → Prop} {s : Shared} {c Pl F : Addr} {h₀ : Heap} {mg₀ mb mg : Str → Option Value} {ps : Array Value} {ds : List DefItem} {os : List (Str × (Obj → Prop))} {ns : List Str} {Q : Flow → Shared → Prop}
theorem Base.names (B : Base mg₀ mb h₀ Pl) {h : Heap} (X : Mod h₀ mg₀ c Pl h mg ps ds [] os ns) (h1 : (Str.ofString "set") ∉ ns) (h2 : (Str.ofString "list") ∉ ns) (h3 : (Str.ofString "range") ∉ ns) : TopNames mg mb h := by
  refine ⟨X.main.g, ?_, ⟨(X.others _ h1).trans B.set.1, B.set.2⟩, ⟨(X.others _ h2).trans B.list.1, B.list.2⟩, ⟨(X.others _ h3).trans B.range.1, B.range.2⟩⟩
  exact B.b.at' fun o e => X.keep _ o B.bP (by decide) e
def D1 : List DefItem := [item 1]
set_option maxHeartbeats 2000000 in
theorem top_a (B : Base mg₀ mb h₀ Pl) (hh : A.handled = none) (X : Mod h₀ mg₀ c Pl s.heap mg #[] [] [] [] [])
    (next : ∀ mg₁ h' mg' ps' tk, (∀ x : Str, x ≠ "__name__" → mg₁ x = mg₀ x) → Mod h₀ mg₁ c Pl h' mg' ps' [item 1] [] [] ["_gen_crc"] → wpAny (model pw w) A (execs (pw.main.body.drop 2) (mainEnv pw c F)) Q E { s with heap := h', toks := tk }) :
    wpAny (model pw w) A (execs pw.main.body (mainEnv pw c F)) Q E s := by
  conv => arg 3; arg 1; whnf
  refine wpAny_execs_cons (Mod.assign X rfl (by decide) (fun _ hq => Constant_str (hq _ _ (fun _ => .str _ _))) ?_)
  intro h1 mg1 tk1 X1
  have X1' := mod_relax _ X1 (fun _ hd => nomatch hd) (fun _ hp => nomatch hp)
  refine wpAny_execs_cons (Mod.def_plain X1' (fun _ => rfl) (by decide) rfl rfl rfl (by decide) ?_)
  intro h2 mg2 c2 tk2 X2
  exact next _ h2 mg2 _ tk2 (fun x hx => if_neg hx) X2
end
end Mine
end
section
open PySem PySem.W PyProof.Rows PySem.Calls
set_option maxRecDepth 100000
set_option linter.unusedVariables false
namespace Mine
section
variable {den : Code → Sem Fin} {prog : Program} {w : World}
theorem calm_of_go : ∀ {k : Nat} {s s₁ s₂ : Shared} {t t₁ t₂ : Thread}, runNI den prog w (k + 1) s t = .running s₁ t₁ → runNI den prog w k s t = .running s₂ t₂ → t₂.calm = true
  | 0, s, s₁, s₂, t, t₁, t₂, h, h' => by
    obtain ⟨rfl, rfl⟩ : s = s₂ ∧ t = t₂ := by
      have h'' : Run.running s t = .running s₂ t₂ := h'
      injection h'' with e1 e2
      exact ⟨e1, e2⟩
    simp only [runNI] at h
    have hl : t.loud = false := by
      cases hl : t.loud with
      | false => rfl
      | true => simp only [stepI_loud den prog w hl] at h; cases h
    simp only [stepI_quiet den prog w hl] at h
    rw [Thread.calm_eq, hl]
    cases hr : t.refused with
    | false => rfl
    | true =>
      obtain ⟨what, e⟩ := stepK_refused den prog w (s := s) hr
      simp only [e] at h
      cases h
  | k + 1, s, s₁, s₂, t, t₁, t₂, h, h' => by
    rw [runNI] at h h'
    cases hs : stepI den prog w s t with
    | go s₃ t₃ => rw [hs] at h h'; exact calm_of_go h h'
    | halt o s₃ => rw [hs] at h'; cases h'
theorem sched_of_run : ∀ {n : Nat} {s s' : Shared} {t t' : Thread}, s.asleep → (∀ k s₁ t₁, k < n → runN den prog w k s t = .running s₁ t₁ → t₁.calm = true) → runN den prog w n s t = .running s' t' →
    schedN den prog w n (.single s t) = .running (.single s' t') ∧ s'.heap.life = s.heap.life
  | 0, s, s', t, t', hz, hc, h => by
    have h'' : Run.running s t = .running s' t' := h
    injection h'' with e1 e2
    subst e1 e2
    exact ⟨rfl, rfl⟩
  | n + 1, s, s', t, t', hz, hc, h => by
    have e := sstep_single den prog w s t (hc 0 s t (Nat.succ_pos n) rfl) hz
    simp only [runN] at h
    cases hs : step den prog w s t with
    | halt o s₂ => rw [hs] at h; cases h
    | go s₂ t₂ =>
      rw [hs] at h e
      have hl := step_life den prog w s s₂ t t₂ hs
      obtain ⟨a, b⟩ := sched_of_run (Shared.asleep_of_life hl hz) (fun k s₁ t₁ hk q => hc (k + 1) s₁ t₁ (Nat.succ_lt_succ hk) (by simp only [runN, hs]; exact q)) h
      refine ⟨?_, b.trans hl⟩
      rcases e with e | e
      · simp only [schedN, e, Step.lift]; exact a
      · cases e
theorem sched_comes {n : Nat} {s s' : Shared} {t t' : Thread} (hz : s.asleep) (h : runNI den prog w n s t = .running s' t') (hg : s'.gens = #[]) :
    ∃ τ, schedN den prog w n (.single s t) = .running (.single s' τ) ∧ τ.forget = t'.forget ∧ s'.heap.life = s.heap.life := by
  obtain ⟨σ, τ, hr, hσ, hτ⟩ := runNI_running_real h
  obtain rfl : σ = s' := Shared.eq_of_forget_eq hσ hg
  obtain ⟨a, b⟩ := sched_of_run hz (fun k s₁ t₁ hk q => by
    obtain ⟨s₂, t₂, h₂⟩ := runNI_prefix (Nat.le_of_lt hk) h
    obtain ⟨s₃, t₃, h₃⟩ := runNI_prefix (Nat.succ_le_of_lt hk) h
    have hc := calm_of_go h₃ h₂
    obtain ⟨σ₂, τ₂, hr₂, _, hτ₂⟩ := runNI_running_real h₂
    rw [hr₂] at q
    injection q with _ e
    rw [← e, ← Thread.calm_forget, hτ₂, Thread.calm_forget]
    exact hc) hr
  exact ⟨τ, a, hτ, b⟩
end
theorem top_runs {prog : Program} {w : World} {s₀ : Shared} {tr : Sem Fin} {P : Shared → Prop} (hz : s₀.asleep)
    (h : wpAny (model prog w) callerA tr (fun fin s' => fin = .done (.ret .none) ∧ P s') (fun _ _ => False) s₀) (hg : ∀ s', P s' → s'.gens = #[]) :
    ∃ s₁, P s₁ ∧ s₁.heap.life = s₀.heap.life ∧ ∃ n t, schedN (denote table) prog w n (.single s₀ ⟨tr, .builtin "claim.caller" {}, default, []⟩) = .running (.single s₁ t) ∧ through t = true := by
  have h' : Sem.wp (model prog w) (Ctx.of (.builtin "claim.caller" {}) []) tr (fun a _ s' => a = .done (.ret .none) ∧ P s') (fun _ _ _ => False) default s₀ := h _ _ caller_in
  obtain ⟨s', p', leaf, ⟨n, hn⟩, hl⟩ := wp_comes (Ctx.fits_of (.builtin "claim.caller" {}) []) tr _ _ _ _ h'
  rcases hl with ⟨a, rfl, rfl, hP⟩ | ⟨e, _, hf⟩
  · have hn' : runNI (denote table) prog w n s₀ ⟨tr, .builtin "claim.caller" {}, default, []⟩ = .running s' ⟨.pure (.done (.ret .none)), .builtin "claim.caller" {}, p', []⟩ := hn
    obtain ⟨τ, hs, hτ, hlf⟩ := sched_comes hz hn' (hg _ hP)
    refine ⟨s', hP, hlf, n, τ, hs, ?_⟩
    obtain ⟨cur, code, pos, stack⟩ := τ
    simp only [Thread.forget, Thread.mk.injEq, forgetAll] at hτ
    obtain ⟨e2, e3, e4, e5⟩ := hτ
    have hst : stack = [] := by cases stack with | nil => rfl | cons x xs => simp at e5
    subst hst e2
    rfl
  · exact hf.elim
end Mine
end
section
open PySem PySem.W PyProof.Rows PySem.Calls
set_option maxRecDepth 100000
set_option linter.unusedVariables false
namespace Mine
def nsOk (h : Heap) (a : Addr) : Bool :=
  match h.get? a with
  | some o => (match o.data with | .dict es _ => es.toList.all (fun e => match e.key with | .str _ _ => true | _ => false) | _ => false)
  | none => false
theorem nsOk_is {h : Heap} {a : Addr} (x : nsOk h a = true) : h.isNs a = true := by
  unfold nsOk at x
  unfold Heap.isNs
  cases ho : h.get? a with
  | none => rw [ho] at x; cases x
  | some o =>
    rw [ho] at x
    dsimp only at x ⊢
    split at x
    · rename_i es ep hd
      rw [Array.all_toList] at x
      simp only [hd]
      exact x
    · cases x
def bootOk (h : Heap) : Bool :=
  nsOk h mainGlobals && nsOk h builtinsNs && nsOk h cStatics && nsOk h sysModules && h.bmainOk && ((h.nsKeys cStatics).all fun k => firstUseKey k || runKey k) && h.freeOk [] &&
  (h.nsMap cStatics "sys.recursionlimit").isNone && (h.nsMap cStatics "sys.int_max_str_digits").isNone && (h.nsMap cStatics "sys.audit-hooks").isNone && (h.nsMap cStatics "sys.dict").isNone && (h.nsMap sysModules "_pylong").isNone &&
  h.life.registered.isEmpty && !h.life.counting
theorem boot_ok : (fun P => bootOk (boot_heap P)) = fun _ => true := by eq_refl
theorem boot_blt : (fun P => (boot_heap P).bltView) = fun _ => bltViewBooted := by eq_refl
structure Booted (h : Heap) : Prop where
  g : h.isNs mainGlobals = true
  b : h.isNs builtinsNs = true
  c : h.isNs cStatics = true
  m : h.isNs sysModules = true
  bm : h.bmainOk = true
  acc : staticsAccountedI h []
  free : h.freeOk [] = true
  s1 : h.nsMap cStatics "sys.recursionlimit" = none
  s2 : h.nsMap cStatics "sys.int_max_str_digits" = none
  s3 : h.nsMap cStatics "sys.audit-hooks" = none
  s4 : h.nsMap cStatics "sys.dict" = none
  s5 : h.nsMap sysModules "_pylong" = none
  l : h.life.registered = [] ∧ h.life.counting = false
  blt : ∀ x : Str, x ≠ "__name__" → h.nsMap builtinsNs x = bootBuiltins x
theorem booted (P : Params) : Booted (boot_heap P) := by
  have h := congrFun boot_ok P
  have hb := congrFun boot_blt P
  unfold bootOk at h
  simp only [Bool.and_eq_true, Option.isNone_iff_eq_none, List.isEmpty_iff, Bool.not_eq_true'] at h
  obtain ⟨⟨⟨⟨⟨⟨⟨⟨⟨⟨⟨⟨⟨h1, h2⟩, h3⟩, h4⟩, h5⟩, h6⟩, h7⟩, h8⟩, h9⟩, h10⟩, h11⟩, h12⟩, h13⟩, h14⟩ := h
  have h3' := nsOk_is h3
  refine ⟨nsOk_is h1, nsOk_is h2, h3', nsOk_is h4, h5, fun key v hv => ?_, h7, h8, h9, h10, h11, h12, ⟨h13, h14⟩, fun x hx => Heap.of_bltView (nsOk_is h2) hb x hx⟩
  rw [Pin.staticOf_eq h3'] at hv
  have hk : key ∈ Heap.nsKeys (boot_heap P) cStatics := by
    by_cases hk : key ∈ Heap.nsKeys (boot_heap P) cStatics
    · exact hk
    · rw [Heap.nsMap_none hk] at hv; cases hv
  rcases Bool.or_eq_true_iff.mp (List.all_eq_true.mp h6 key hk) with q | q
  · exact .inl q
  · exact .inr (.inl q)
theorem open_eq : opening pw = plainProg pw.main.scope.names := rfl
theorem fence_eq : ∀ s, fenceModules? pw s = some s := fun s => rfl
theorem fenced (w : World) : (fencedOpening treeTable pw w 600).map (fun s => (s.heap, s.gens, s.drawn, s.toks)) = some (boot_heap w.params, Array.mk [], boot_drawn, boot_toks) :=
  boot_open open_eq rfl fence_eq w
/-- what stands ahead of the top -/
theorem top_from (w : World) : (∃ s, AfterRun (opening pw) w s) ∧ ∀ s, AfterRun (opening pw) w s → fenceModules? pw s = some s ∧ s.heap = boot_heap w.params ∧ s.gens = #[] ∧ s.asleep := by
  have h := fenced w
  rw [← table_eq_tree] at h
  obtain ⟨s₀, h1, h2⟩ := Option.map_eq_some_iff.mp h
  unfold fencedOpening at h1
  obtain ⟨s, h4, h5⟩ := Option.bind_eq_some_iff.mp h1
  rw [fence_eq] at h5
  obtain rfl : s = s₀ := Option.some.inj h5
  have A := AfterImport.of_importEnds h4
  refine ⟨⟨s, A⟩, fun s' hs' => ?_⟩
  obtain rfl : s' = s := AfterImport.unique hs' A
  obtain ⟨e1, e2⟩ := Prod.mk.inj h2
  exact ⟨fence_eq _, e1, (Prod.mk.inj e2).1, A.life⟩
end Mine
end
section
open PySem PySem.W PyProof.Rows PySem.Calls
set_option maxRecDepth 100000
set_option linter.unusedVariables false
namespace Mine
def defsR : List DefItem := [item 19, item 18, item 17, item 16, item 15, item 14, item 13, item 12, item 10, item 8, item 6, item 4, item 1]
def objsR (w : World) : List (Str × (Obj → Prop)) := [("c9_set", IsIntSet w c9L), ("c7_set", IsIntSet w c7L), ("b3_exceptions", TabObj (intKind pw w) PyData.int b3D), ("b1_set", IsIntSet w b1L)]
def TopAll (w : World) : Prop := ∀ (A : Around) (s : Shared) (mg mb : Str → Option Value) (c Pl F : Addr) (Q : Flow → Shared → Prop) (E : Value → Shared → Prop),
  A.handled = none → s.heap.Main mg c Pl #[] → Pl < s.heap.objs.size → s.heap.Ns builtinsNs mb → builtinsNs ≠ Pl → (∀ x : Str, x ≠ "__name__" → mb x = bootBuiltins x) → (∀ x, x ∉ bootMainNames → mg x = none) →
  (∀ mg₁ h' mg' ps' ns tk, (∀ x : Str, x ≠ "__name__" → mg₁ x = mg x) → (∀ x ∈ ns, x ∈ names) → Mod s.heap mg₁ c Pl h' mg' ps' defsR [] (objsR w) ns → Q .next { s with heap := h', toks := tk }) →
  wpAny (model pw w) A (execs pw.main.body (mainEnv pw c F)) Q E s
structure After (w : World) (s₀ s₁ : Shared) : Prop where
  gens : s₁.gens = #[]
  os : s₁.os = s₀.os
  keep : ∀ b o, b ≠ mainGlobals → s₀.heap.get? b = some o → s₁.heap.get? b = some o
  ex : ∃ mg, s₁.heap.Ns mainGlobals mg ∧ (∀ d ∈ defs, d.Made 0 mg s₁.heap) ∧ (∀ p ∈ objs w, ∃ a o, mainGlobals < a ∧ mg p.1 = some (.ref a) ∧ s₁.heap.get? a = some o ∧ p.2 o) ∧
    (∀ x, x ∉ names → x ≠ "__name__" → mg x = s₀.heap.nsMap mainGlobals x)
theorem made_zero {d : DefItem} {N : Nat} {mg : Str → Option Value} {h : Heap} (x : d.Made N mg h) : d.Made 0 mg h := by
  obtain ⟨a, c', o, pm, doc, dV, h1, h2, h3, h4, h5, h6, h7⟩ := x
  refine ⟨a, c', o, pm, doc, dV, Nat.zero_le _, Nat.zero_le _, h3, h4, h5, h6, ?_⟩
  rcases h7 with l | ⟨hne, T, o, vs, n, ds, h1, h2, r⟩
  · exact .inl l
  · exact .inr ⟨hne, T, o, vs, n, ds, h1, Nat.zero_le _, r⟩
theorem bmod_of (h : Heap) (B : Booted h) : ∃ bm o, h.nsMap mainGlobals "__builtins__" = some (.ref bm) ∧ bm ≠ builtinsNs ∧ bm ≠ mainGlobals ∧ h.get? bm = some o ∧ o.cls = .type "module" ∧ o.dict = some builtinsNs ∧ o.data = .plain := by
  obtain ⟨bm, ob, h1, h2, h3, h4, h5, h6⟩ := Heap.bmainOk_spec B.bm
  refine ⟨bm, ob, h1, h2, ?_, h3, h4, h5, h6⟩
  rintro rfl
  obtain ⟨o, es, ep, g1, g2, _⟩ := Heap.Ns.of_isNs B.g
  rw [h3] at g1
  cases g1
  rw [h6] at g2
  cases g2
theorem stub_ok {w : World} (T : TopAll w) {s₀ : Shared} (B : Booted s₀.heap) (hg : s₀.gens = #[]) :
    wpAny (model pw w) callerA (topStub pw).cur (fun fin s' => fin = .done (.ret .none) ∧ After w s₀ s') (fun _ _ => False) s₀ := by
  have Hg := Heap.Ns.of_isNs B.g
  have Hb := Heap.Ns.of_isNs B.b
  obtain ⟨bm, ob, h1, h2, h3, h4, h5⟩ := bmod_of _ B
  show wpAny _ _ (do let code ← moduleCode pw.main; let frame ← newBodyFrame code mainNs mainNs; let _ ← run (.body (behindTheImports pw) { scope := pw.main.scope, locals := mainNs, globals := mainNs, cells := [], code, frame := some frame }); ret .none) _ _ _
  refine wpAny_bind (wpAny_moduleCode fun c Pl h₁ tk₁ hk₁ hc hPl hcode => ?_)
  unfold newBodyFrame
  refine wpAny_bind (wpAny_bind (wpAny_nsGet (Hg.keeps hk₁) (wpAny_alloc ?_)))
  refine wpAny_bind (wpAny_run (codeAny_body rfl rfl (wpAny_mono (E := fun _ _ => False) ?_ (fun _ _ x => x) fun _ _ x => x.elim)))
  generalize hfr : ({ cls := .type "frame", slots := #[some (Value.ref c), some (.ref mainNs), some (.ref mainNs), none, some ((s₀.heap.nsMap mainGlobals "__name__").getD .none), none, some (.ref builtinsNs)] } : Obj) = fr
  have hk₂ : ∀ b o, s₀.heap.get? b = some o → (h₁.push fr).get? b = some o := fun b o e => Heap.get?_push_of_some _ (hk₁ b o e)
  have hlt := Hg.lt
  have hblt := Hb.lt
  have hsz : s₀.heap.objs.size ≤ (h₁.push fr).objs.size := by
    obtain ⟨o, vs, file, tf, flags, tg, inF, text, tt, op, ho, _⟩ := id hcode
    have := Heap.lt_size ho
    rw [Heap.size_push]
    exact Nat.le_trans hc (Nat.le_of_lt (Nat.lt_succ_of_lt this))
  have hPs : Pl < (h₁.push fr).objs.size := by
    obtain ⟨o, vs, file, tf, flags, tg, inF, text, tt, op, ho, _, _, _, _, _, _, hop, _⟩ := id (hcode.push fr)
    exact Heap.lt_size hop
  refine T _ ⟨h₁.push fr, s₀.gens, s₀.drawn, tk₁, s₀.os⟩ (s₀.heap.nsMap mainGlobals) (s₀.heap.nsMap builtinsNs) c Pl _ _ _ rfl ?_ hPs (Hb.keeps hk₂) (Nat.ne_of_lt (Nat.lt_of_lt_of_le hblt hPl)) B.blt
    (fun x hx => Heap.of_freeOk B.free x (by simp) hx) ?_
  · exact ⟨Hg.keeps hk₂, hcode.push _, ⟨Nat.lt_of_lt_of_le hlt hc, Nat.lt_of_lt_of_le hlt hPl⟩,
      ⟨bm, ob, h1, h2, h3, Nat.ne_of_lt (Nat.lt_of_lt_of_le (Heap.lt_size h4) hPl), hk₂ _ _ h4, h5⟩⟩
  · intro mg₁ h' mg' ps' ns tk hm₁ hns X
    refine wpAny_pure ⟨rfl, hg, rfl, fun b o hb e => X.keep b o (Nat.ne_of_lt (Nat.lt_of_lt_of_le (Heap.lt_size e) hPl)) hb (hk₂ b o e), mg', X.main.g, fun d hd => ?_, fun p hp => ?_, fun x hx hxn => ?_⟩
    · refine made_zero (X.made d ?_)
      simp only [defs, defsR, List.mem_cons, List.not_mem_nil, or_false] at hd ⊢
      rcases hd with h | h | h | h | h | h | h | h | h | h | h | h | h <;> rw [h] <;> simp
    · obtain ⟨a, o, g1, g2⟩ := X.held p (by
        simp only [objs, objsR, List.mem_cons, List.not_mem_nil, or_false] at hp ⊢
        rcases hp with h | h | h | h <;> rw [h] <;> simp)
      exact ⟨a, o, Nat.lt_of_lt_of_le (Nat.lt_of_lt_of_le hlt hsz) g1, g2⟩
    · exact (X.others x fun h => hx (hns x h)).trans (hm₁ x hxn)
end Mine
end
section
open PySem PySem.W PyProof.Rows PySem.Calls
set_option maxRecDepth 100000
set_option linter.unusedVariables false
namespace Mine
theorem global_ns {h : Heap} {mg : Str → Option Value} (G : h.Ns mainGlobals mg) (x : Str) : globalOf h x = mg x := by
  obtain ⟨o, es, ep, ho, hd, _, hf⟩ := G
  have ho' : h.get? mainNs = some o := ho
  simp only [globalOf, ho', hd]
  exact hf x
theorem startup_boot : startupNames = bootMainNames := rfl
theorem names_bound : ∀ x ∈ names, x ∈ pw.boundNames := by decide +kernel
theorem name_bound : ("__name__" : Str) ∈ startupNames := by decide +kernel
theorem imports_nil : importedModules pw.main.body = [] := by decide +kernel
theorem laid_free : ∀ x ∈ laidNames, x ∉ names ∧ x ≠ "__name__" := by decide +kernel
theorem builtins_free : ("__builtins__" : Str) ∉ names ∧ ("__builtins__" : Str) ≠ "__name__" := by decide +kernel
theorem top_ran {w : World} {s₀ s₁ : Shared} (B : Booted s₀.heap) (hg : s₀.gens = #[]) (X : After w s₀ s₁) (hl : s₁.heap.life = s₀.heap.life)
    (hr : ∃ n t, schedN (denote table) pw w n (.single s₀ (topStub pw)) = .running (.single s₁ t) ∧ through t = true) : TopRan pw w s₀ s₁ := by
  obtain ⟨mg, G, hm, ho, hx⟩ := X.ex
  have hG0 := Heap.Ns.of_isNs B.g
  have c0 : cStatics ≠ mainGlobals := by decide
  have b0 : builtinsNs ≠ mainGlobals := by decide
  obtain ⟨oc, esc, epc, hoc, _⟩ := Heap.Ns.of_isNs B.c
  obtain ⟨obn, esb, epb, hob, _⟩ := Heap.Ns.of_isNs B.b
  have hoc' := X.keep _ _ c0 hoc
  have hob' := X.keep _ _ b0 hob
  have hst : ∀ k, staticOf s₁.heap k = staticOf s₀.heap k := fun k => by unfold staticOf; rw [hoc, hoc']
  have hbt : ∀ k, builtinOf s₁.heap k = builtinOf s₀.heap k := fun k => by unfold builtinOf; rw [hob, hob']
  obtain ⟨bm, o, h1, h2, h3, h4, h5, h6, h7⟩ := bmod_of _ B
  refine ⟨hr, hl, Shared.rest_eq X.os, fun b o hb hn => X.keep b o (fun e => hn (.inl e)) hb, ?_, fun k => .inl (hst k), ?_, fun k hk => ?_, ?_, ?_, ?_, ?_⟩
  · rw [imports_nil]
    intro k v hv
    rw [hst] at hv
    have := B.acc k v hv
    simpa only [hst] using this
  · obtain ⟨o, es, ep, ho, hd, hk, _⟩ := G
    exact ⟨o, es, ep, ho, hd, hk⟩
  · rw [hbt, Pin.builtinOf_eq B.b]
    exact B.blt k hk
  · exact ⟨bm, o, (global_ns G _).trans ((hx _ builtins_free.1 builtins_free.2).trans h1), X.keep _ _ h3 h4, h5, h6⟩
  · intro g hgg
    rw [X.gens] at hgg
    simp at hgg
  · intro x v hv
    rw [global_ns G] at hv
    by_cases hxn : x ∈ names
    · exact .inr (names_bound x hxn)
    · by_cases he : x = "__name__"
      · exact .inl (he ▸ name_bound)
      · rw [hx x hxn he] at hv
        by_cases hb : x ∈ bootMainNames
        · exact .inl (startup_boot ▸ hb)
        · rw [Heap.of_freeOk B.free x (by simp) hb] at hv
          cases hv
  · intro x hxl
    obtain ⟨a, b⟩ := laid_free x hxl
    rw [global_ns G, global_ns hG0]
    exact hx x a b
theorem law_def : pw.theDef "law" = some ((item 19).params, (item 19).body, (item 19).scope) := rfl
theorem law_name : (item 19).name = "law" := rfl
theorem law_kw : kwWritten? (item 19).params.kwonlyargs (item 19).params.kw_defaults = some [] := rfl
theorem law_dflt : (item 19).params.defaults = [] := rfl
theorem pinned {w : World} {s₀ s₁ : Shared} (X : After w s₀ s₁) : isTheDefsW pw s₁.heap "law" := by
  obtain ⟨mg, G, hm, _⟩ := X.ex
  obtain ⟨a, c', o, pm, doc, _, _, h3, h4, h5, h6⟩ := (hm (item 19) (by simp [defs])).plain law_dflt
  refine ⟨a, o, _, _, _, _, (global_ns G _).trans h3, h4, h5, law_def, rfl, rfl, rfl, rfl, rfl, rfl, rfl, rfl, .inl ⟨law_dflt, rfl⟩, [], law_kw, .inl ⟨rfl, rfl⟩⟩
theorem glob_of {w : World} {s₀ s₁ : Shared} (B : Booted s₀.heap) (X : After w s₀ s₁) : ∃ mg mb f, GG w mg mb s₁.heap ∧ mg "law" = some (.ref f) := by
  obtain ⟨mg, G, hm, ho, hx⟩ := X.ex
  have c0 : cStatics ≠ mainGlobals := by decide
  have b0 : builtinsNs ≠ mainGlobals := by decide
  have m0 : sysModules ≠ mainGlobals := by decide
  have Hb := (Heap.Ns.of_isNs B.b).at fun o e => X.keep _ o b0 e
  have Hc := (Heap.Ns.of_isNs B.c).at fun o e => X.keep _ o c0 e
  have Hm := (Heap.Ns.of_isNs B.m).at fun o e => X.keep _ o m0 e
  obtain ⟨bm, o, h1, h2, h3, h4, h5, h6, h7⟩ := bmod_of _ B
  obtain ⟨a, c', o', pm, doc, _, _, g3, _⟩ := (hm (item 19) (by simp [defs])).plain law_dflt
  refine ⟨mg, _, a, ⟨G, Hb, B.blt, ⟨_, Hc, B.s1⟩, hm, (fun p hp => nomatch hp), fun x hx1 hx2 => ?_, ⟨_, Hc, B.s2⟩, ho, ⟨⟨_, Hc, B.s3, B.s4⟩, ⟨_, Hm, B.s5⟩, ⟨_, Hb, B.blt⟩, ⟨mg, bm, o, G, (hx _ builtins_free.1 builtins_free.2).trans h1, X.keep _ _ h3 h4, h5, h6⟩⟩⟩, g3⟩
  by_cases he : x = "__name__"
  · exact absurd (startup_boot ▸ he ▸ name_bound) hx2
  · rw [hx x hx1 he]
    exact Heap.of_freeOk B.free x (by simp) hx2
end Mine
end
section
open PySem PySem.W PyProof.Rows PySem.Calls PyProof.V
set_option maxRecDepth 100000
set_option linter.unusedVariables false
namespace Mine
structure Codes (n : Nat) (ps : Array Value) : Prop where
  ex : ∃ l : List (Pos × Addr), ps.toList = triples l ∧ ∀ q ∈ l, q.1.line < n
theorem Codes.none {n : Nat} {ps : Array Value} {pos : Pos} (C : Codes n ps) (h : n ≤ pos.line) : codeAmong pos ps.toList = none := by
  obtain ⟨l, e, hl⟩ := C.ex
  rw [e]
  exact codeAmong_triples pos l fun q hq ⟨e1, _⟩ => by have := hl q hq; omega
theorem Codes.step {n : Nat} {ps : Array Value} {pos : Pos} {c : Addr} (C : Codes n ps) (h : n ≤ pos.line) : Codes (pos.line + 1) (ps ++ #[rawInt pos.line, rawInt pos.col, .ref c]) := by
  obtain ⟨l, e, hl⟩ := C.ex
  refine ⟨l ++ [(pos, c)], ?_, fun q hq => ?_⟩
  · rw [triples_append, Array.toList_append, e]
  · rcases List.mem_append.mp hq with h' | h'
    · have := hl q h'; omega
    · rw [List.mem_singleton.mp h']; exact Nat.lt_succ_self _
theorem Codes.more {n n' : Nat} {ps : Array Value} (C : Codes n ps) (h : n ≤ n') : Codes n' ps :=
  ⟨let ⟨l, e, hl⟩ := C.ex; ⟨l, e, fun q hq => Nat.lt_of_lt_of_le (hl q hq) h⟩⟩
theorem Base.relax {mg₀ mg₁ mb : Str → Option Value} {h₀ : Heap} {Pl : Addr} (B : Base mg₀ mb h₀ Pl) (h : ∀ x : Str, x ≠ "__name__" → mg₁ x = mg₀ x) : Base mg₁ mb h₀ Pl :=
  ⟨B.b, B.bP, ⟨(h _ (by decide)).trans B.set.1, B.set.2⟩, ⟨(h _ (by decide)).trans B.list.1, B.list.2⟩, ⟨(h _ (by decide)).trans B.range.1, B.range.2⟩, B.sys⟩
/-- the place of the i-th statement's target, and its own -/
def tgtPos (i : Nat) : Pos := match (pw.main.body : List PySem.Stmt)[i]? with
  | some (PySem.Stmt.Assign [.Name _ p] _ _) => p
  | _ => default
def asgPos (i : Nat) : Pos := match (pw.main.body : List PySem.Stmt)[i]? with
  | some (PySem.Stmt.Assign _ _ p) => p
  | _ => default
def asgVal (i : Nat) : Expr := match (pw.main.body : List PySem.Stmt)[i]? with
  | some (PySem.Stmt.Assign _ v _) => v
  | _ => .Constant .none 0 default
/-- a text written at the top -/
def asgStr (i : Nat) : Str := match asgVal i with
  | .Constant (.str x) _ _ => x
  | _ => ""
def asgKind (i : Nat) : Nat := match asgVal i with
  | .Constant _ k _ => k
  | _ => 0
def asgCPos (i : Nat) : Pos := match asgVal i with
  | .Constant _ _ p => p
  | _ => default
abbrev defStmt (d : DefItem) : PySem.Stmt := .FunctionDef d.name d.params d.body [] none [] d.scope none d.name d.pos
abbrev nameStmt (i : Nat) : PySem.Stmt := .Assign [.Name "__name__" (tgtPos i)] (.Constant (.str (asgStr i)) (asgKind i) (asgCPos i)) (asgPos i)
theorem drop_1 : (pw.main.body : List PySem.Stmt).drop 1 = defStmt (item 1) :: (pw.main.body : List PySem.Stmt).drop 2 := by eq_refl
theorem drop_4 : (pw.main.body : List PySem.Stmt).drop 4 = defStmt (item 4) :: (pw.main.body : List PySem.Stmt).drop 5 := by eq_refl
theorem drop_6 : (pw.main.body : List PySem.Stmt).drop 6 = defStmt (item 6) :: (pw.main.body : List PySem.Stmt).drop 7 := by eq_refl
theorem drop_8 : (pw.main.body : List PySem.Stmt).drop 8 = defStmt (item 8) :: (pw.main.body : List PySem.Stmt).drop 9 := by eq_refl
theorem drop_10 : (pw.main.body : List PySem.Stmt).drop 10 = defStmt (item 10) :: (pw.main.body : List PySem.Stmt).drop 11 := by eq_refl
theorem drop_12 : (pw.main.body : List PySem.Stmt).drop 12 = defStmt (item 12) :: (pw.main.body : List PySem.Stmt).drop 13 := by eq_refl
theorem drop_13 : (pw.main.body : List PySem.Stmt).drop 13 = defStmt (item 13) :: (pw.main.body : List PySem.Stmt).drop 14 := by eq_refl
theorem drop_14 : (pw.main.body : List PySem.Stmt).drop 14 = defStmt (item 14) :: (pw.main.body : List PySem.Stmt).drop 15 := by eq_refl
theorem drop_15 : (pw.main.body : List PySem.Stmt).drop 15 = defStmt (item 15) :: (pw.main.body : List PySem.Stmt).drop 16 := by eq_refl
theorem drop_16 : (pw.main.body : List PySem.Stmt).drop 16 = defStmt (item 16) :: (pw.main.body : List PySem.Stmt).drop 17 := by eq_refl
theorem drop_17 : (pw.main.body : List PySem.Stmt).drop 17 = defStmt (item 17) :: (pw.main.body : List PySem.Stmt).drop 18 := by eq_refl
theorem drop_18 : (pw.main.body : List PySem.Stmt).drop 18 = defStmt (item 18) :: (pw.main.body : List PySem.Stmt).drop 19 := by eq_refl
theorem drop_19 : (pw.main.body : List PySem.Stmt).drop 19 = defStmt (item 19) :: (pw.main.body : List PySem.Stmt).drop 20 := by eq_refl
theorem drop_0 : (pw.main.body : List PySem.Stmt).drop 0 = nameStmt 0 :: (pw.main.body : List PySem.Stmt).drop 1 := by eq_refl
theorem drop_2 : (pw.main.body : List PySem.Stmt).drop 2 = nameStmt 2 :: (pw.main.body : List PySem.Stmt).drop 3 := by eq_refl
theorem drop_11 : (pw.main.body : List PySem.Stmt).drop 11 = nameStmt 11 :: (pw.main.body : List PySem.Stmt).drop 12 := by eq_refl
theorem drop_3 : (pw.main.body : List PySem.Stmt).drop 3 = PySem.Stmt.Assign [.Name "b1_set" (tgtPos 3)] (valOf 3) (asgPos 3) :: (pw.main.body : List PySem.Stmt).drop 4 := by eq_refl
theorem drop_7 : (pw.main.body : List PySem.Stmt).drop 7 = PySem.Stmt.Assign [.Name "c7_set" (tgtPos 7)] (valOf 7) (asgPos 7) :: (pw.main.body : List PySem.Stmt).drop 8 := by eq_refl
theorem drop_9 : (pw.main.body : List PySem.Stmt).drop 9 = PySem.Stmt.Assign [.Name "c9_set" (tgtPos 9)] (valOf 9) (asgPos 9) :: (pw.main.body : List PySem.Stmt).drop 10 := by eq_refl
theorem drop_5 : (pw.main.body : List PySem.Stmt).drop 5 = PySem.Stmt.Assign [.Name "b3_exceptions" (tgtPos 5)] (.Dict dictKeys dictVals dictPos) (asgPos 5) :: (pw.main.body : List PySem.Stmt).drop 6 := by kernel_rfl
theorem drop_20 : (pw.main.body : List PySem.Stmt).drop 20 = [] := by eq_refl
theorem tree_1 : PlainDefTree (item 1).name (item 1).params (item 1).body (item 1).scope (item 1).pos := fun _ => rfl
theorem side_1 : (∀ x ∈ (item 1).scope.names, x.2 ≠ .free) ∧ docOf (item 1).body = none ∧ pw.main.scope.names.lookup (item 1).name = some .local ∧ qualnameIn { scope := pw.main.scope, locals := mainGlobals, globals := mainGlobals, cells := [] } (item 1).name (item 1).name = (item 1).name ∧ (item 1).name ≠ "__builtins__" ∧ (item 1).params.defaults = [] :=
  ⟨by decide +kernel, by eq_refl, by eq_refl, by eq_refl, by decide +kernel, by eq_refl⟩
theorem tree_4 : PlainDefTree (item 4).name (item 4).params (item 4).body (item 4).scope (item 4).pos := fun _ => rfl
theorem side_4 : (∀ x ∈ (item 4).scope.names, x.2 ≠ .free) ∧ docOf (item 4).body = none ∧ pw.main.scope.names.lookup (item 4).name = some .local ∧ qualnameIn { scope := pw.main.scope, locals := mainGlobals, globals := mainGlobals, cells := [] } (item 4).name (item 4).name = (item 4).name ∧ (item 4).name ≠ "__builtins__" ∧ (item 4).params.defaults = [] :=
  ⟨by decide +kernel, by eq_refl, by eq_refl, by eq_refl, by decide +kernel, by eq_refl⟩
theorem tree_6 : PlainDefTree (item 6).name (item 6).params (item 6).body (item 6).scope (item 6).pos := fun _ => rfl
theorem side_6 : (∀ x ∈ (item 6).scope.names, x.2 ≠ .free) ∧ docOf (item 6).body = none ∧ pw.main.scope.names.lookup (item 6).name = some .local ∧ qualnameIn { scope := pw.main.scope, locals := mainGlobals, globals := mainGlobals, cells := [] } (item 6).name (item 6).name = (item 6).name ∧ (item 6).name ≠ "__builtins__" ∧ (item 6).params.defaults = [] :=
  ⟨by decide +kernel, by eq_refl, by eq_refl, by eq_refl, by decide +kernel, by eq_refl⟩
theorem tree_8 : PlainDefTree (item 8).name (item 8).params (item 8).body (item 8).scope (item 8).pos := fun _ => rfl
theorem side_8 : (∀ x ∈ (item 8).scope.names, x.2 ≠ .free) ∧ docOf (item 8).body = none ∧ pw.main.scope.names.lookup (item 8).name = some .local ∧ qualnameIn { scope := pw.main.scope, locals := mainGlobals, globals := mainGlobals, cells := [] } (item 8).name (item 8).name = (item 8).name ∧ (item 8).name ≠ "__builtins__" ∧ (item 8).params.defaults = [] :=
  ⟨by decide +kernel, by eq_refl, by eq_refl, by eq_refl, by decide +kernel, by eq_refl⟩
theorem tree_10 : PlainDefTree (item 10).name (item 10).params (item 10).body (item 10).scope (item 10).pos := fun _ => rfl
theorem side_10 : (∀ x ∈ (item 10).scope.names, x.2 ≠ .free) ∧ docOf (item 10).body = none ∧ pw.main.scope.names.lookup (item 10).name = some .local ∧ qualnameIn { scope := pw.main.scope, locals := mainGlobals, globals := mainGlobals, cells := [] } (item 10).name (item 10).name = (item 10).name ∧ (item 10).name ≠ "__builtins__" ∧ (item 10).params.defaults = [] :=
  ⟨by decide +kernel, by eq_refl, by eq_refl, by eq_refl, by decide +kernel, by eq_refl⟩
theorem tree_12 : PlainDefTree (item 12).name (item 12).params (item 12).body (item 12).scope (item 12).pos := fun _ => rfl
theorem side_12 : (∀ x ∈ (item 12).scope.names, x.2 ≠ .free) ∧ docOf (item 12).body = none ∧ pw.main.scope.names.lookup (item 12).name = some .local ∧ qualnameIn { scope := pw.main.scope, locals := mainGlobals, globals := mainGlobals, cells := [] } (item 12).name (item 12).name = (item 12).name ∧ (item 12).name ≠ "__builtins__" ∧ (item 12).params.defaults = [] :=
  ⟨by decide +kernel, by eq_refl, by eq_refl, by eq_refl, by decide +kernel, by eq_refl⟩
theorem tree_13 : PlainDefTree (item 13).name (item 13).params (item 13).body (item 13).scope (item 13).pos := fun _ => rfl
theorem side_13 : (∀ x ∈ (item 13).scope.names, x.2 ≠ .free) ∧ docOf (item 13).body = none ∧ pw.main.scope.names.lookup (item 13).name = some .local ∧ qualnameIn { scope := pw.main.scope, locals := mainGlobals, globals := mainGlobals, cells := [] } (item 13).name (item 13).name = (item 13).name ∧ (item 13).name ≠ "__builtins__" ∧ (item 13).params.defaults = [] :=
  ⟨by decide +kernel, by eq_refl, by eq_refl, by eq_refl, by decide +kernel, by eq_refl⟩
theorem tree_14 : PlainDefTree (item 14).name (item 14).params (item 14).body (item 14).scope (item 14).pos := fun _ => rfl
theorem side_14 : (∀ x ∈ (item 14).scope.names, x.2 ≠ .free) ∧ docOf (item 14).body = none ∧ pw.main.scope.names.lookup (item 14).name = some .local ∧ qualnameIn { scope := pw.main.scope, locals := mainGlobals, globals := mainGlobals, cells := [] } (item 14).name (item 14).name = (item 14).name ∧ (item 14).name ≠ "__builtins__" ∧ (item 14).params.defaults = [] :=
  ⟨by decide +kernel, by eq_refl, by eq_refl, by eq_refl, by decide +kernel, by eq_refl⟩
theorem tree_15 : PlainDefTree (item 15).name (item 15).params (item 15).body (item 15).scope (item 15).pos := fun _ => rfl
theorem side_15 : (∀ x ∈ (item 15).scope.names, x.2 ≠ .free) ∧ docOf (item 15).body = none ∧ pw.main.scope.names.lookup (item 15).name = some .local ∧ qualnameIn { scope := pw.main.scope, locals := mainGlobals, globals := mainGlobals, cells := [] } (item 15).name (item 15).name = (item 15).name ∧ (item 15).name ≠ "__builtins__" ∧ (item 15).params.defaults = [] :=
  ⟨by decide +kernel, by eq_refl, by eq_refl, by eq_refl, by decide +kernel, by eq_refl⟩
theorem tree_16 : PlainDefTree (item 16).name (item 16).params (item 16).body (item 16).scope (item 16).pos := fun _ => rfl
theorem side_16 : (∀ x ∈ (item 16).scope.names, x.2 ≠ .free) ∧ docOf (item 16).body = none ∧ pw.main.scope.names.lookup (item 16).name = some .local ∧ qualnameIn { scope := pw.main.scope, locals := mainGlobals, globals := mainGlobals, cells := [] } (item 16).name (item 16).name = (item 16).name ∧ (item 16).name ≠ "__builtins__" ∧ (item 16).params.defaults = [] :=
  ⟨by decide +kernel, by eq_refl, by eq_refl, by eq_refl, by decide +kernel, by eq_refl⟩
theorem tree_17 : PlainDefTree (item 17).name (item 17).params (item 17).body (item 17).scope (item 17).pos := fun _ => rfl
theorem side_17 : (∀ x ∈ (item 17).scope.names, x.2 ≠ .free) ∧ docOf (item 17).body = none ∧ pw.main.scope.names.lookup (item 17).name = some .local ∧ qualnameIn { scope := pw.main.scope, locals := mainGlobals, globals := mainGlobals, cells := [] } (item 17).name (item 17).name = (item 17).name ∧ (item 17).name ≠ "__builtins__" ∧ (item 17).params.defaults = [] :=
  ⟨by decide +kernel, by eq_refl, by eq_refl, by eq_refl, by decide +kernel, by eq_refl⟩
theorem tree_18 : PlainDefTree (item 18).name (item 18).params (item 18).body (item 18).scope (item 18).pos := fun _ => rfl
theorem side_18 : (∀ x ∈ (item 18).scope.names, x.2 ≠ .free) ∧ docOf (item 18).body = none ∧ pw.main.scope.names.lookup (item 18).name = some .local ∧ qualnameIn { scope := pw.main.scope, locals := mainGlobals, globals := mainGlobals, cells := [] } (item 18).name (item 18).name = (item 18).name ∧ (item 18).name ≠ "__builtins__" ∧ (item 18).params.defaults = [] :=
  ⟨by decide +kernel, by eq_refl, by eq_refl, by eq_refl, by decide +kernel, by eq_refl⟩
theorem tree_19 : PlainDefTree (item 19).name (item 19).params (item 19).body (item 19).scope (item 19).pos := fun _ => rfl
theorem side_19 : (∀ x ∈ (item 19).scope.names, x.2 ≠ .free) ∧ docOf (item 19).body = none ∧ pw.main.scope.names.lookup (item 19).name = some .local ∧ qualnameIn { scope := pw.main.scope, locals := mainGlobals, globals := mainGlobals, cells := [] } (item 19).name (item 19).name = (item 19).name ∧ (item 19).name ≠ "__builtins__" ∧ (item 19).params.defaults = [] :=
  ⟨by decide +kernel, by eq_refl, by eq_refl, by eq_refl, by decide +kernel, by eq_refl⟩
end Mine
end
section
open PySem PySem.W PyProof.Rows PySem.Calls PyProof.V
set_option maxRecDepth 100000
set_option linter.unusedVariables false
namespace Mine
section
variable {w : World} {A : Around} {E : Value → Shared → Prop} {h : Heap} {gs : Array GenState} {dr : Drawn} {tk₀ : Nat} {os₀ : OsState} {c Pl F : Addr} {h₀ : Heap} {mg₀ mb mg : Str → Option Value} {ps : Array Value} {ds : List DefItem} {os : List (Str × (Obj → Prop))} {ns : List Str} {Q : Flow → Shared → Prop} {rest : List PySem.Stmt} {n : Nat}
theorem top_mod : pw.main.scope.kind = .module := by with_unfolding_all rfl
abbrev Side (d : DefItem) : Prop := (∀ x ∈ d.scope.names, x.2 ≠ .free) ∧ docOf d.body = none ∧ pw.main.scope.names.lookup d.name = some .local ∧ qualnameIn { scope := pw.main.scope, locals := mainGlobals, globals := mainGlobals, cells := [] } d.name d.name = d.name ∧ d.name ≠ "__builtins__" ∧ d.params.defaults = []
theorem def_top (d : DefItem) (htree : PlainDefTree d.name d.params d.body d.scope d.pos) (hs : Side d) (hnew : d.name ∉ ns) (C : Codes n ps) (hline : n ≤ d.pos.line) (X : Mod h₀ mg₀ c Pl h mg ps ds [] os ns)
    (next : ∀ h' mg' ps' tk, Codes (d.pos.line + 1) ps' → Mod h₀ mg₀ c Pl h' mg' ps' (d :: ds) [] os (d.name :: ns) → wpAny (model pw w) A (execs rest (mainEnv pw c F)) Q E ⟨h', gs, dr, tk, os₀⟩) :
    wpAny (model pw w) A (execs (defStmt d :: rest) (mainEnv pw c F)) Q E ⟨h, gs, dr, tk₀, os₀⟩ := by
  obtain ⟨s1, s2, s3, s4, s5, s6⟩ := hs
  exact wpAny_execs_cons (Mod.def_plain (s := ⟨h, gs, dr, tk₀, os₀⟩) X htree s1 s2 s3 s4 hnew (fun h' mg' c' tk X' => next h' mg' _ tk (C.step hline) X') s5 top_mod (C.none hline) s6)
theorem name_top (p1 p2 p3 : Pos) (x : Str) (k : Nat) (hloc : pw.main.scope.names.lookup (Str.ofString "__name__") = some .local) (hnew : (Str.ofString "__name__") ∉ ns) (X : Mod h₀ mg₀ c Pl h mg ps ds [] os ns)
    (next : ∀ mg₁ h' mg' tk, (∀ y : Str, y ≠ "__name__" → mg₁ y = mg₀ y) → Mod h₀ mg₁ c Pl h' mg' ps ds [] os ns → wpAny (model pw w) A (execs rest (mainEnv pw c F)) Q E ⟨h', gs, dr, tk, os₀⟩) :
    wpAny (model pw w) A (execs (.Assign [.Name "__name__" p1] (.Constant (.str x) k p2) p3 :: rest) (mainEnv pw c F)) Q E ⟨h, gs, dr, tk₀, os₀⟩ := by
  refine wpAny_execs_cons (Mod.assign (s := ⟨h, gs, dr, tk₀, os₀⟩) (d := .str x) X hloc hnew (fun Q' hq => Constant_str (hq _ _ (fun _ => .str _ _))) (fun h1 mg1 tk1 X1 => ?_) (by decide) top_mod)
  exact next _ h1 mg1 tk1 (fun y hy => if_neg hy) (mod_relax _ X1 X.dnames X.onames)
theorem obj_top {x : Str} {p1 p2 : Pos} {value : Expr} {P : Obj → Prop} (hloc : pw.main.scope.names.lookup x = some .local) (hnew : x ∉ ns) (hnb : x ≠ "__builtins__") (hs : swapsWith value (some (.Name x p1)) p2.line (mainEnv pw c F) = pure false) (X : Mod h₀ mg₀ c Pl h mg ps ds [] os ns)
    (hval : ∀ Q' : Value → Shared → Prop, (∀ a o h₁ tk, h.objs.size ≤ a → h₁.get? a = some o → P o → (∀ b o', h.get? b = some o' → h₁.get? b = some o') → Q' (.ref a) ⟨h₁, gs, dr, tk, os₀⟩) →
      wpAny (model pw w) A (eval value (mainEnv pw c F)) Q' E ⟨h, gs, dr, tk₀, os₀⟩)
    (next : ∀ h' mg' tk, Mod h₀ mg₀ c Pl h' mg' ps ds [] ((x, P) :: os) (x :: ns) → wpAny (model pw w) A (execs rest (mainEnv pw c F)) Q E ⟨h', gs, dr, tk, os₀⟩) :
    wpAny (model pw w) A (execs (.Assign [.Name x p1] value p2 :: rest) (mainEnv pw c F)) Q E ⟨h, gs, dr, tk₀, os₀⟩ :=
  wpAny_execs_cons (Mod.assign_obj (s := ⟨h, gs, dr, tk₀, os₀⟩) X hloc hnew hval next hnb top_mod hs)
end
theorem name_loc : pw.main.scope.names.lookup (Str.ofString "__name__") = some .local := by with_unfolding_all rfl
theorem loc_3 : pw.main.scope.names.lookup (Str.ofString "b1_set") = some .local := by with_unfolding_all rfl
theorem swap_3 {c F : Addr} : swapsWith (valOf 3) (some (.Name "b1_set" (tgtPos 3))) (asgPos 3).line (mainEnv pw c F) = pure false := by with_unfolding_all rfl
theorem loc_5 : pw.main.scope.names.lookup (Str.ofString "b3_exceptions") = some .local := by with_unfolding_all rfl
theorem swap_5 {c F : Addr} : swapsWith (.Dict dictKeys dictVals dictPos) (some (.Name "b3_exceptions" (tgtPos 5))) (asgPos 5).line (mainEnv pw c F) = pure false := by with_unfolding_all rfl
theorem loc_7 : pw.main.scope.names.lookup (Str.ofString "c7_set") = some .local := by with_unfolding_all rfl
theorem swap_7 {c F : Addr} : swapsWith (valOf 7) (some (.Name "c7_set" (tgtPos 7))) (asgPos 7).line (mainEnv pw c F) = pure false := by with_unfolding_all rfl
theorem loc_9 : pw.main.scope.names.lookup (Str.ofString "c9_set") = some .local := by with_unfolding_all rfl
theorem swap_9 {c F : Addr} : swapsWith (valOf 9) (some (.Name "c9_set" (tgtPos 9))) (asgPos 9).line (mainEnv pw c F) = pure false := by with_unfolding_all rfl
set_option maxHeartbeats 4000000 in
theorem top_all (w : World) : TopAll w := by
  intro A s mg mb c Pl F Q E hh hM hPl hb hbP hblt hfree next
  obtain ⟨hp, gs, dr, tk₀, os₀⟩ := s
  dsimp only at hM hPl hb next
  have B : Base mg mb hp Pl := ⟨hb, hbP, ⟨hfree _ (by decide +kernel), (hblt _ (by decide)).trans (by decide +kernel)⟩, ⟨hfree _ (by decide +kernel), (hblt _ (by decide)).trans (by decide +kernel)⟩, ⟨hfree _ (by decide +kernel), (hblt _ (by decide)).trans (by decide +kernel)⟩, ?_⟩
  rotate_left
  · exact Nat.lt_trans (by decide) hM.g.lt
  have X0 := mod_start hM hPl
  have C0 : Codes 0 #[] := ⟨[], rfl, fun _ h => nomatch h⟩
  show wpAny _ _ (execs (List.drop 0 pw.main.body) _) _ _ _
  rw [drop_0]
  refine name_top _ _ _ _ _ name_loc (by decide +kernel) X0 fun mg0_1 h0 mg0 tk0 hm0 X1 => ?_
  have B := B.relax hm0
  rw [drop_1]
  refine def_top (item 1) tree_1 side_1 (by decide +kernel) C0 (by decide +kernel) X1 fun h1 mg1 ps1 tk1 C1 X2 => ?_
  rw [drop_2]
  refine name_top _ _ _ _ _ name_loc (by decide +kernel) X2 fun mg2_1 h2 mg2 tk2 hm2 X3 => ?_
  have B := B.relax hm2
  rw [drop_3]
  refine obj_top (P := IsIntSet w b1L) loc_3 (by decide +kernel) (by decide) swap_3 X3 (fun Q' hq => val_b1 (B.names X3 (by decide +kernel) (by decide +kernel) (by decide +kernel)) hh hq) fun h3 mg3 tk3 X4 => ?_
  rw [drop_4]
  refine def_top (item 4) tree_4 side_4 (by decide +kernel) C1 (by decide +kernel) X4 fun h4 mg4 ps4 tk4 C2 X5 => ?_
  rw [drop_5]
  refine obj_top (P := TabObj (intKind pw w) PyData.int b3D) loc_5 (by decide +kernel) (by decide) swap_5 X5 (fun Q' hq => val_b3 (Nat.lt_of_lt_of_le B.sys X5.grows) hq) fun h5 mg5 tk5 X6 => ?_
  rw [drop_6]
  refine def_top (item 6) tree_6 side_6 (by decide +kernel) C2 (by decide +kernel) X6 fun h6 mg6 ps6 tk6 C3 X7 => ?_
  rw [drop_7]
  refine obj_top (P := IsIntSet w c7L) loc_7 (by decide +kernel) (by decide) swap_7 X7 (fun Q' hq => val_c7 (B.names X7 (by decide +kernel) (by decide +kernel) (by decide +kernel)) hh hq) fun h7 mg7 tk7 X8 => ?_
  rw [drop_8]
  refine def_top (item 8) tree_8 side_8 (by decide +kernel) C3 (by decide +kernel) X8 fun h8 mg8 ps8 tk8 C4 X9 => ?_
  rw [drop_9]
  refine obj_top (P := IsIntSet w c9L) loc_9 (by decide +kernel) (by decide) swap_9 X9 (fun Q' hq => val_c9 (B.names X9 (by decide +kernel) (by decide +kernel) (by decide +kernel)) hh hq) fun h9 mg9 tk9 X10 => ?_
  rw [drop_10]
  refine def_top (item 10) tree_10 side_10 (by decide +kernel) C4 (by decide +kernel) X10 fun h10 mg10 ps10 tk10 C5 X11 => ?_
  rw [drop_11]
  refine name_top _ _ _ _ _ name_loc (by decide +kernel) X11 fun mg11_1 h11 mg11 tk11 hm11 X12 => ?_
  have B := B.relax hm11
  rw [drop_12]
  refine def_top (item 12) tree_12 side_12 (by decide +kernel) C5 (by decide +kernel) X12 fun h12 mg12 ps12 tk12 C6 X13 => ?_
  rw [drop_13]
  refine def_top (item 13) tree_13 side_13 (by decide +kernel) C6 (by decide +kernel) X13 fun h13 mg13 ps13 tk13 C7 X14 => ?_
  rw [drop_14]
  refine def_top (item 14) tree_14 side_14 (by decide +kernel) C7 (by decide +kernel) X14 fun h14 mg14 ps14 tk14 C8 X15 => ?_
  rw [drop_15]
  refine def_top (item 15) tree_15 side_15 (by decide +kernel) C8 (by decide +kernel) X15 fun h15 mg15 ps15 tk15 C9 X16 => ?_
  rw [drop_16]
  refine def_top (item 16) tree_16 side_16 (by decide +kernel) C9 (by decide +kernel) X16 fun h16 mg16 ps16 tk16 C10 X17 => ?_
  rw [drop_17]
  refine def_top (item 17) tree_17 side_17 (by decide +kernel) C10 (by decide +kernel) X17 fun h17 mg17 ps17 tk17 C11 X18 => ?_
  rw [drop_18]
  refine def_top (item 18) tree_18 side_18 (by decide +kernel) C11 (by decide +kernel) X18 fun h18 mg18 ps18 tk18 C12 X19 => ?_
  rw [drop_19]
  refine def_top (item 19) tree_19 side_19 (by decide +kernel) C12 (by decide +kernel) X19 fun h19 mg19 ps19 tk19 C13 X20 => ?_
  rw [drop_20]
  refine wpAny_execs_nil ?_
  refine next _ _ _ _ _ _ (fun x hx => ?_) ?_ X20
  · rw [hm11 x hx, hm2 x hx, hm0 x hx]
  · decide +kernel
end Mine
end
section
open PySem PySem.W PyProof.Rows PySem.Calls
set_option maxRecDepth 100000
set_option linter.unusedVariables false
namespace Mine
abbrev lw : OpenLaw := PySem.Challenge.rw_mq0273_01
theorem ints_items {R : WRecords} {cl : Str → Option Addr} {h : Heap} : ∀ {xs : List WData} {vs : List Value} {as : List Addr}, WShape.hasItems R xs .int = true → ReadsAllW R cl h vs xs as → ∃ ns : List Int, IntsAre vs ns ∧ ns.length = xs.length
  | [], vs, as, hi, r => by cases r; exact ⟨[], .nil, rfl⟩
  | x :: xs, vs, as, hi, r => by
    simp only [WShape.hasItems, Bool.and_eq_true] at hi
    obtain ⟨i, rfl⟩ := hasW_int hi.1
    cases r with
    | cons r1 r2 =>
      cases r1
      obtain ⟨ns, h1, h2⟩ := ints_items hi.2 r2
      exact ⟨i :: ns, .cons _ _ h1, by simp [h2]⟩
theorem law_pre {args : List WData} (h : lw.row.toRowW.claim.pre args = true) : ∃ xs, args = [.list xs] ∧ WShape.hasItems [] xs .int = true ∧ xs.length ≤ 63 := by
  obtain ⟨h1, h2⟩ := pre_splitW h
  obtain ⟨d, r, rfl, hd, hr⟩ := hasAllW_cons h1
  obtain rfl := hasAllW_nil hr
  obtain ⟨xs, rfl, hx⟩ := hasW_list hd
  refine ⟨xs, rfl, hx, ?_⟩
  have h3 : (WTm.and (.not (.lt (.lit (.int 63)) (.len (.arg 0)))) (.lit (.bool true))).holds [] { args := [.list xs] } = true := h2
  by_cases hl : xs.length ≤ 63
  · exact hl
  · exfalso
    have : (63 : Int) < (xs.length : Int) := by omega
    simp [WTm.holds, WTm.value, PySem.W.less?, Num.less?, this] at h3
theorem law_post {args args' : List WData} : lw.row.toRowW.claim.post args (.bool true) args' = true := by
  have h1 : WShape.has [] (.bool true) .bool = true := by decide +kernel
  have h2 : (WTm.eq .res (.lit (.bool true))).holds [] { args := args, res := some (.bool true), after := args' } = true := by simp [WTm.holds, WTm.value, same_self]
  exact Bool.and_eq_true_iff.mpr ⟨h1, h2⟩
theorem law_raises (args : List WData) (cls : ExcName) : lw.row.toRowW.claim.raises args cls = false := by rfl
theorem law_bare : lw.row.toRowW.claim.prog.bare := ⟨rfl, rfl, rfl, rfl, rfl, by decide +kernel⟩
theorem law_opens : opensWell lw.row.toRowW.claim.prog = true := by decide +kernel
theorem law_frees : (frees lw.row.toRowW && lw.row.toRowW.within.isEmpty) = true := by decide +kernel
theorem law_promised : lw.row.toRowW.promised := ⟨[.list [.int 3, .int 1]], by decide +kernel, by decide +kernel⟩
theorem law_from {w : World} {s₀ s : Shared} {free : Addr → Prop} {gens : Prop} {kept : Heap → Prop} (B : Booted s₀.heap) (X : After w s₀ s) (hz : s.asleep) (hk : ∀ h, kept h) :
    lw.row.toRowW.claim.CallFrom (callStub "law") w free gens kept s := by
  obtain ⟨mg, mb, f, G, hf⟩ := glob_of B X
  obtain ⟨k5, k6⟩ := Bool.and_eq_true_iff.mp law_frees
  obtain ⟨hsame, hu, ha, hap, hm⟩ := frees_parts k5
  have hi := ident_freeW hu ha hap
  have hwi : lw.row.toRowW.claim.within = [] := List.isEmpty_iff.mp k6
  refine ClaimW.callFrom_of_specG (c := lw.row.toRowW.claim) (tree := fun vs => do match ← nsGet mainNs "law" with
      | some f => do ret (← PySem.call f vs)
      | none => unsupported "claim.caller:no-such-global") hz X.gens fun args hpre hlay ord hord => ?_
  obtain ⟨xs, rfl, hx, h63⟩ := law_pre hpre
  obtain ⟨⟨vs, s₁⟩, hlaid⟩ := Option.isSome_iff_exists.mp (layAllW_isSome (R := lw.row.toRowW.claim.records) (cl := classAt s.heap) (P := w.params) (ord := ord) (fun c hc => nomatch hc) [.list xs] lw.row.toRowW.args s (pre_splitW hpre).1)
  have keeps := layAllW_keeps _ _ _ hlaid
  have hal := layAllW_rest _ _ _ hlaid
  obtain ⟨as, hrd, hin, hold⟩ := reads_layAllW hord _ _ _ hlaid hlay s₁.heap (fun _ _ e => e)
  have L : Laid lw.row.toRowW.claim.records w s s₁ [.list xs] vs as := ⟨⟨ord, hord, hlaid⟩, hrd, hin, hold, keeps, hal.1.trans X.gens, hal.2.2.1⟩
  have G₁ := G.keeps keeps
  refine ⟨vs, s₁, hlaid, wpAny_bind (wpAny_nsGet G₁.g ?_)⟩
  rw [hf]
  refine wpAny_bind ?_
  obtain ⟨v, vs', a, b, rfl, rfl, r1, r2⟩ : ∃ v vs' a b, vs = v :: vs' ∧ as = a ++ b ∧ ReadsW lw.row.toRowW.claim.records (classAt s.heap) s₁.heap v (.list xs) a ∧ ReadsAllW lw.row.toRowW.claim.records (classAt s.heap) s₁.heap vs' [] b := by
    cases hrd with
    | cons r1 r2 => exact ⟨_, _, _, _, rfl, rfl, r1, r2⟩
  cases r2
  cases r1 with
  | @list a o its n _ as' ho hc hd hr =>
    obtain ⟨ns, hns, hlen⟩ := ints_items hx hr
    have hl : s₁.heap.IsList a its.toList.toArray := ⟨o, ho, hc, n, hd⟩
    refine law_call G₁ hf ?_ rfl ?_ hl hns (by omega) fun h' tk hg => ?_
    · decide +kernel
    · decide +kernel
    · have g : GoodWG lw.row.toRowW.claim (classAt s.heap) (ExcName.means s.heap) [.list xs] s₁ (.ok (.ret (.bool true))) { s₁ with heap := h', toks := tk } :=
        GoodW.toG ⟨.inl ⟨_, _, [], rfl, law_raises _, .bool true, law_post, fun _ => ⟨.nil, fun _ h => nomatch h⟩⟩, hg, rfl, L.gens⟩
      have z := g.laid hsame hwi hi L
      exact wpAny_pure ⟨_, rfl, z.1, z.2.1, z.2.2, hk _⟩
theorem law_open : lw.row.toRowW.claim.HoldsOpenBy (callStub "law") ["law"] lw.row.keeps false := by
  refine ⟨⟨law_bare, law_opens, rfl⟩, law_promised.witness, fun w => ⟨(top_from w).1, fun s hs => ?_⟩⟩
  obtain ⟨hfe, hh, hg, hz⟩ := (top_from w).2 s hs
  have B : Booted s.heap := hh ▸ booted w.params
  obtain ⟨s₁, X, hl, hr⟩ := top_runs (P := After w s) hz (stub_ok (top_all w) B hg) fun _ x => x.gens
  refine ⟨s, hfe, hg, s₁, top_ran B hg X hl hr, fun n hn => ?_, (fun x hx => nomatch hx), (fun x hx => nomatch hx), ?_⟩
  · rw [List.mem_singleton.mp hn]
    exact pinned X
  · exact law_from B X (Shared.asleep_of_life hl hz) fun h' hw => nomatch hw
set_option maxHeartbeats 4000000 in
theorem law_holds : lw.Holds := by
  o_law
  rename_i said
  exact ⟨said, law_promised, law_open⟩
end Mine
end
theorem PySem.Challenge.cw_mq0273_01_holds : PySem.Challenge.rw_mq0273_01.Holds :=
  Mine.law_holds
