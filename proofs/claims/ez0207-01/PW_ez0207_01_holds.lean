import PyProof.Rows.All
import Wide.All
import OpenK.AllK
import Wide.FinOn
import Lean
import PySem.Challenge.RW_ez0207_01
open PySem PySem.W PyProof.Rows PySem.Calls PySem.Spec
set_option Elab.async false
set_option maxRecDepth 100000
set_option linter.unusedVariables false
set_option linter.unusedSimpArgs false
namespace Mine
set_option maxHeartbeats 8000000 in
open_top hd for PySem.Challenge.rw_ez0207_01
end Mine
set_option maxHeartbeats 1000000
namespace Mine
theorem Fr.cg {h₀ h : Heap} {L : Addr} {m m' : Str → Option Value} (F : Fr h₀ L h m) (e : ∀ y, m y = m' y) : Fr h₀ L h m' := (funext e : m = m') ▸ F
/-- a frame's names as a list -/
def putA (x : Str) (v : Value) : List (Str × Value) → List (Str × Value)
  | [] => [(x, v)]
  | p :: r => if p.1 = x then (x, v) :: r else p :: putA x v r
theorem putA_look (x : Str) (v : Value) (y : Str) : ∀ l, List.lookup y (putA x v l) = if y = x then some v else List.lookup y l
  | [] => by
    unfold putA
    by_cases h : y = x
    · subst h; simp [List.lookup]
    · have : (y == x) = false := beq_eq_false_iff_ne.mpr h
      simp [List.lookup, h, this]
  | p :: r => by
    unfold putA
    by_cases h : p.1 = x
    · rw [if_pos h]
      obtain ⟨k, u⟩ := p
      cases h
      by_cases h2 : y = k
      · subst h2; simp
      · have : (y == k) = false := beq_eq_false_iff_ne.mpr h2
        simp [List.lookup_cons, this, h2]
    · rw [if_neg h]
      obtain ⟨k, u⟩ := p
      have ih := putA_look x v y r
      by_cases h2 : y = k
      · subst h2
        have : y ≠ x := h
        simp [this]
      · have : (y == k) = false := beq_eq_false_iff_ne.mpr h2
        simp only [List.lookup_cons, this, ih]
theorem putE {M : Str → Option Value} {x : Str} {v : Value} {l : List (Str × Value)} (e : ∀ y, M y = List.lookup y l) : ∀ y, (if y = x then some v else M y) = List.lookup y (putA x v l) := fun y => by rw [putA_look, e]

section
variable {prog : Program} {w : World} {A : Around} {E : Value → Shared → Prop} {s : Shared} {env : Env} {h₀ : Heap} {x : PySem.Str} {body : List Stmt} {Q : Flow → Shared → Prop}
/-- a for over a text's signs, by an invariant over the turn's number, the names and the ledger -/
theorem iter_text {xt : PySem.Str} {tx : Tok} {m₀ : PySem.Str → Option Value} {news : List (Addr × Obj)} (J : Nat → (Str → Option Value) → List (Addr × Obj) → Prop)
    (hh : A.handled = none) (F : Fr h₀ env.locals s.heap m₀) (N : News h₀ env.locals s.heap news) (hj : J 0 m₀ news)
    (turn : ∀ i c t m₁ news₁ h tk own, xt.cps[i]? = some c → news₁.map (·.1) = news.map (·.1) → OwnOff own (news.map (·.1)) → J i m₁ news₁ →
      Fr h₀ env.locals h (fun y => if y = x then some (.str ⟨#[c]⟩ t) else m₁ y) → News h₀ env.locals h (news₁ ++ own) →
      wpAny (model prog w) A (execs body env) (InvPostN h₀ env.locals (J (i + 1)) own (news.map (·.1)) { s with heap := h, toks := tk } Q) E { s with heap := h, toks := tk })
    (done : ∀ m₁ news₁ h tk, J xt.cps.size m₁ news₁ → Fr h₀ env.locals h m₁ → News h₀ env.locals h news₁ → Q .next { s with heap := h, toks := tk }) :
    wpAny (model prog w) A (pyIter (.str xt tx)) (fun it s₂ => LoopAtV prog w A h₀ env x body Q E it s₂) E s := by
  refine wpAny_pyIter_str fun o St hW hst => ?_
  have W := hW A hh
  refine loop_invN J W ?_ ?_ ?_ ?_ hst (F.push _) (fun p hp => ⟨Heap.get?_push_of_some _ (N p hp).1, (N p hp).2⟩) hj ?_ ?_
  · intro hm
    exact absurd F.ns.lt ((List.mem_singleton.mp hm) ▸ Nat.lt_irrefl _)
  · intro b' hb
    rw [List.mem_singleton.mp hb]
    exact next_is_new F
  · intro p hp hI
    exact absurd (Heap.lt_size (N p hp).1) ((List.mem_singleton.mp hI) ▸ Nat.lt_irrefl _)
  · intro p hp hI
    exact absurd (Heap.lt_size (N p hp).1) ((List.mem_singleton.mp hI) ▸ Nat.lt_irrefl _)
  · rintro i v m₁ nx h tk own hi ⟨n, u, hn, rfl⟩ ha hoff hJ F₁ N₁
    exact turn i n u m₁ nx h tk own hn ha hoff hJ F₁ N₁
  · rintro m₁ nx h tk hJ F₁ N₁
    exact done m₁ nx h tk hJ F₁ N₁
end
def OptInt (o : Option Int) (v : Value) : Prop := match o with
  | none => v = .none
  | some n => ∃ t, v = .int n t

theorem look_hole {x : Str} {l : List (Str × Value)} (h : List.lookup x l = none) : ∀ y, List.lookup y l = (if y = x then none else List.lookup y l) := fun y => by
  by_cases e : y = x
  · rw [if_pos e, e]; exact h
  · rw [if_neg e]
theorem if_if {x : Str} {a u : Option Value} {M : Str → Option Value} : ∀ y, (if y = x then a else if y = x then u else M y) = (if y = x then a else M y) := fun y => by
  by_cases e : y = x <;> simp [e]
/-- a store below a loop's name -/
theorem putU {M : Str → Option Value} {x z : Str} {u : Option Value} {v : Value} {l : List (Str × Value)} (hz : x ≠ z) (e : ∀ y, M y = (if y = z then u else List.lookup y l)) :
    ∀ y, (if y = x then some v else M y) = (if y = z then u else List.lookup y (putA x v l)) := fun y => by
  rw [putA_look, e]
  by_cases h1 : y = x
  · subst h1; simp [hz]
  · simp [h1]
theorem len_mk (l : List Nat) : Str.length ⟨l.toArray⟩ = l.length := by simp [Str.length]
theorem putZ {M : Str → Option Value} {z : Str} {u a : Option Value} {l : List (Str × Value)} (e : ∀ y, M y = (if y = z then u else List.lookup y l)) :
    ∀ y, (if y = z then a else M y) = (if y = z then a else List.lookup y l) := fun y => by
  rw [e]
  by_cases h : y = z <;> simp [h]
theorem fs_and {M : Model} {A : Around} {E : Value → Shared → Prop} {s : Shared} {acc y : Str} {parts : List (Sem Value)} {Q : Value → Shared → Prop}
    (hl : acc.length + y.length ≤ 10000000) (h : ∀ z : Str, z.length = acc.length + y.length → wpAny M A (joinParts z parts) Q E s) : Str.length (acc ++ y) ≤ sizeLine ∧ wpAny M A (joinParts (acc ++ y) parts) Q E s :=
  ⟨by rw [Str.length_append, sizeLine_eq]; omega, h _ (Str.length_append _ _)⟩
theorem fs_nil {M : Model} {A : Around} {E : Value → Shared → Prop} {s : Shared} {out : Str} {Q : Value → Shared → Prop} (hl : out.length ≤ 10000000) (h : Q (.str out s.toks) { s with toks := s.toks + 1 }) : wpAny M A (joinParts out []) Q E s :=
  wpAny_mkStr h (by rw [sizeLine_eq]; omega)

section
variable {prog : Program} {w : World} {A : Around} {s : Shared} {h₀ : Heap} {L : Addr} {m : Str → Option Value} {env : Env}
theorem compEnd_mono {s₁ : Shared} {I C D : Addr} {oI oC oD : Obj} {S : List (Addr × Obj) → Prop} {r r' : Value → List (Addr × Obj) → Prop} {y : Value} {s₂ : Shared} (h : ∀ y n, r y n → r' y n)
    (x : LCg.CompEnd h₀ L m s₁ I oI C oC D oD S r y s₂) : LCg.CompEnd h₀ L m s₁ I oI C oC D oD S r' y s₂ := by
  obtain ⟨h', tk, n', a, b, c, d, e, f⟩ := x
  exact ⟨h', tk, n', a, b, c, d, e, h _ _ f⟩
/-- a comprehension by what holds of the items made so far and of the ledger -/
theorem comp_ind {elt : PySem.Expr} {x : Str} {scope : Scope} {cl : List (Str × Addr)} {S : List (Addr × Obj) → Prop} {P : Nat → Value → Prop} {Fin : List Value → List (Addr × Obj) → Prop} {n : Nat} {news : List (Addr × Obj)}
    (Inv : Nat → List Value → List (Addr × Obj) → Prop) (h0 : Inv 0 [] news)
    (step : ∀ i ys news, i < n → Inv i ys news → ∀ v I oI C oC D m₂ h tk (E' : Value → Shared → Prop), P i v → LCg.NsObj oC m₂ → m₂ x = some v → Fr h₀ L h m → News h₀ L h ((I, oI) :: (C, oC) :: (D, LCg.lst ys) :: news) → LCg.Off3 I C D news → ((@Ne Nat I C) ∧ (@Ne Nat I D) ∧ (@Ne Nat C D)) →
      wpAny (model prog w) A (eval elt (compEnvC scope cl C env)) (LCg.CompEnd h₀ L m { s with heap := h, toks := tk } I oI C oC D (LCg.lst ys) S (fun y news' => Inv (i + 1) (ys ++ [y]) news')) E' { s with heap := h, toks := tk })
    (fin : ∀ ys news, Inv n ys news → Fin ys news) : LCg.CompRest prog w A h₀ L m env elt x scope cl s S P Fin n 0 [] news := by
  have H : ∀ k i ys news, i + k = n → Inv i ys news → LCg.CompRest prog w A h₀ L m env elt x scope cl s S P Fin k i ys news := by
    intro k
    induction k with
    | zero => intro i ys news e hi; exact LCg.CompRest.zero (fin ys news ((show i = n by omega) ▸ hi))
    | succ k ih =>
      intro i ys news e hi
      refine LCg.CompRest.succ ?_
      intro v I oI C oC D m₂ h tk E' a1 a2 a3 a4 a5 a6 a7
      exact wpAny_mono (step i ys news (by omega) hi v I oI C oC D m₂ h tk E' a1 a2 a3 a4 a5 a6 a7) (fun y s₂ q => compEnd_mono (fun y n q => ih (i + 1) (ys ++ [y]) n (by omega) q) q) fun _ _ e => e
  exact H n 0 [] news (by omega) h0
end

section
variable {prog : Program} {w : World} {A : Around} {E : Value → Shared → Prop} {s : Shared} {h₀ : Heap} {L : Addr} {m : Str → Option Value} {env : Env}
theorem strit_st {I : Addr} {xt : Str} {tx : Tok} : ∀ i (h h' : Heap) (o : Obj) (nw : List (Addr × Obj)), h.IsStrIter I "str_ascii_iterator" xt tx i → h.get? I = some o → h'.get? I = some o → (∀ b o, h₀.get? b = some o → h'.get? b = some o) → News h₀ L h' nw → True → h'.IsStrIter I "str_ascii_iterator" xt tx i :=
  fun i h h' o nw st e e' _ _ _ => by obtain ⟨o', q, r⟩ := st; rw [e] at q; cases q; exact ⟨o, e', r⟩
def TextSrc (prog : Program) (w : World) (A : Around) (h₀ : Heap) (L : Addr) (m : Str → Option Value) (env : Env) (elt : PySem.Expr) (x : Str) (scope : Scope) (cl : List (Str × Addr)) (Q : Value → Shared → Prop) (xv : Value) (s₁ : Shared) : Prop :=
  ∃ xt tx news, xv = .str xt tx ∧ A.handled = none ∧ Fr h₀ L s₁.heap m ∧ News h₀ L s₁.heap news ∧ xt.cps.size ≤ sizeLine ∧ xt.cps.all (· < 128) = true ∧
      ∀ g, LCg.CompRest prog w A h₀ L m env elt x scope cl { s₁ with heap := g } (fun _ => True) (SignAt xt) (LCg.FinE h₀ L m { s₁ with heap := g } Q) xt.cps.size 0 [] news
/-- a comprehension over an ASCII text's signs -/
theorem ListComp_T {elt iter : PySem.Expr} {x : Str} {px : Pos} {scope : Scope} {cl : List (Str × Addr)} {pos : Pos} {Q : Value → Shared → Prop} (F₀ : Fr h₀ L s.heap m)
    (hclos : closureFor scope env = pure cl) (hcell : ∀ y ∈ scope.names, y.2 ≠ .cell) (hkind : scope.kind = .function)
    (hnames : ∀ y ∈ scope.names, y.2 = .local → scope.names.lookup y.1 = some .local) (hx : scope.names.lookup x = some .local)
    (h : wpAny (model prog w) A (eval iter env) (TextSrc prog w A h₀ L m env elt x scope cl Q) E s)
    (hs : ∀ x, foldedSetIterable iter env x = pure x := by intro _; rfl) :
    wpAny (model prog w) A (eval (.ListComp elt [⟨.Name x px, iter, [], 0⟩] scope pos) env) Q E s := by
  rw [eval_ListComp]
  refine wpAny_comprehension_free (use := none) rfl hs hclos hkind hnames (wpAny_mono h (fun xv s₁ h₁ => ?_) fun _ _ e => e)
  obtain ⟨xt, tx, news, rfl, hh, F, N, hsz, ha, R⟩ := h₁
  refine wpAny_pyIter_ascii ha ?_
  refine LCg.block_U (Walks.strAscii hh s₁.heap.objs.size xt tx) hsz (fun i h st => by obtain ⟨o, e, _⟩ := st; exact ⟨o, e⟩) strit_st hcell hkind hx ⟨_, Heap.get?_push_size _ rfl, rfl, rfl⟩ (fun b hb => ?_)
    (F.keeps fun _ _ e => Heap.get?_push_of_some _ e) (N.grown fun _ _ e => Heap.get?_push_of_some _ e) (Nat.ne_of_lt F.ns.lt) (next_is_new F) (fun p hp => Nat.ne_of_lt (Heap.lt_size (N p hp).1)) trivial (R _) ?_
  · rw [List.mem_singleton.mp hb]
    show s₁.heap.objs.size < (s₁.heap.push _).objs.size
    rw [Heap.size_push]; exact Nat.lt_succ_self _
  · intro D C h tk m' ys news' F' N' o1 hn hC₀ hD₀ hCL hDL hCD offC fin
    refine ⟨m', hn, fun h'' hs'' => fin D h'' tk (F'.change hs'' hCL hC₀) (fun p hp => ?_) o1⟩
    refine ⟨hs''.extBut _ _ ?_ (N' p hp).1, (N' p hp).2⟩
    rcases List.mem_cons.mp hp with rfl | hp
    · exact Ne.symm hCD
    · exact offC p hp
end
/-- the state of the law's draws -/
def LawSt (sc : Addr) (o : Obj) : Prop := ∃ (pos seed : Int) (t1 t2 : Tok) (c : Nat), o = listOf #[.ref sc, .int pos t1, .int seed t2] c ∧ 0 ≤ pos ∧ pos ≤ 100 ∧ 0 ≤ seed ∧ seed < 2147483647
def ScrOk (o : Obj) : Prop := ∃ (vs : List Value) (ns : List Int) (c : Nat), o = listOf vs.toArray c ∧ IntsAre vs ns ∧ ns.length ≤ 40
inductive MixedL : List Nat → List Nat → Prop
  | nil : MixedL [] []
  | cons {a b : Nat} {x y : List Nat} : (b = a ∨ b = a + 32) → MixedL x y → MixedL (a :: x) (b :: y)
theorem MixedL.snoc {a b : Nat} (h : b = a ∨ b = a + 32) : ∀ {x y : List Nat}, MixedL x y → MixedL (x ++ [a]) (y ++ [b])
  | _, _, .nil => .cons h .nil
  | _, _, .cons q r => .cons q (r.snoc h)
theorem MixedL.length : ∀ {x y : List Nat}, MixedL x y → y.length = x.length
  | _, _, .nil => rfl
  | _, _, .cons _ r => by simp [r.length]
theorem sum_ones : ∀ (ws : List Str), (∀ x ∈ ws, Str.length x ≤ 1) → (ws.map (·.length)).sum ≤ ws.length
  | [], _ => by simp
  | w :: r, h => by
    have := sum_ones r fun x hx => h x (.tail _ hx)
    have := h w (.head _)
    simp only [List.map_cons, List.sum_cons, List.length_cons]
    omega
theorem kl_ins0 (us : List Value) (y : Value) : kl_ins us.toArray.toList 0 y = y :: us := by simp [kl_ins]
theorem join0 (ws : List Str) : Txt.join (Str.ofString "") ws = ⟨(ws.flatMap fun x => x.cps.toList).toArray⟩ := by
  have key : ∀ (l : List Str) (acc : Array Nat), l.foldl (fun acc p => acc ++ (Str.ofString "").cps ++ p.cps) acc = acc ++ (l.flatMap fun x => x.cps.toList).toArray := by
    intro l
    induction l with
    | nil => intro acc; simp
    | cons a r ih =>
      intro acc
      rw [List.foldl_cons, ih]
      have e : (Str.ofString "").cps = #[] := by decide
      rw [e]
      apply Array.toList_inj.mp
      simp
  cases ws with
  | nil => rfl
  | cons a r =>
    show (⟨List.foldl (fun acc p => acc ++ (Str.ofString "").cps ++ p.cps) a.cps r⟩ : Str) = _
    rw [key]
    apply congrArg Str.mk
    apply Array.toList_inj.mp
    simp
theorem strsAre_len : ∀ {us : List Value} {ws : List Str}, StrsAre us ws → us.length = ws.length
  | _, _, .nil => rfl
  | _, _, .cons _ _ h => by simp [strsAre_len h]
theorem flat_ones : ∀ zs : List Nat, (zs.map fun c => (⟨#[c]⟩ : Str)).flatMap (fun x => x.cps.toList) = zs
  | [] => rfl
  | c :: r => by simp [flat_ones r]

theorem AllObj.mono : ∀ {ws : List (Addr × String)} {k k' : List (Addr × Obj) → Prop}, (∀ its, k its → k' its) → AllObj ws k → AllObj ws k'
  | [], _, _, h, x => h _ x
  | _ :: _, _, _, h, x => fun o ho => AllObj.mono (fun its y => h _ y) (x o ho)
section
variable {prog : Program} {w : World} {A : Around} {E : Value → Shared → Prop} {s : Shared} {env : Env} {h₀ : Heap} {target : PySem.Expr} {body : List Stmt} {Q : Flow → Shared → Prop}
theorem unrPostW_mono {L : Addr} {s₁ : Shared} {its : List (Addr × Obj)} {r r' : (Str → Option Value) → List (Addr × Obj) → Prop} {f : Flow} {s₂ : Shared} (h : ∀ m n, r m n → r' m n) (x : UnrPostW h₀ L s₁ its r Q f s₂) : UnrPostW h₀ L s₁ its r' Q f s₂ := by
  have e : UnrEndW h₀ L s₁ its r s₂ → UnrEndW h₀ L s₁ its r' s₂ := fun ⟨h', tk, m', n', a, b, c, d, e⟩ => ⟨h', tk, m', n', a, b, c, d, h _ _ e⟩
  cases f with
  | ret v => exact x
  | brk => exact x
  | next => exact e x
  | cont => exact e x
/-- a loop over known items by what holds between the turns -/
theorem items_ind {ws : List (Addr × String)} {keep : List (Addr × Obj)} {xs : List Itm} {m : Str → Option Value} {news : List (Addr × Obj)} (Inv : Nat → (Str → Option Value) → List (Addr × Obj) → Prop) (h0 : Inv 0 m news)
    (turn : ∀ i a m news, xs[i]? = some a → Inv i m news → ∀ v h tk, a.Is v h → Fr h₀ env.locals h m → AllObj ws (fun its => News h₀ env.locals h (its ++ news) →
      wpAny (model prog w) A (assign target env v) (fun _ s₂ => wpAny (model prog w) A (execs body env) (UnrPostW h₀ env.locals { s with heap := h, toks := tk } its (fun m' n' => SubL keep n' ∧ Inv (i + 1) m' n') Q) E s₂) E { s with heap := h, toks := tk }))
    (fin : ∀ m news, Inv xs.length m news → ∀ h tk, Fr h₀ env.locals h m → News h₀ env.locals h news → Q .next { s with heap := h, toks := tk }) :
    ItemsRest prog w A E h₀ env target body Q s ws keep xs m news := by
  have H : ∀ r i m news, xs.drop i = r → i + r.length = xs.length → Inv i m news → ItemsRest prog w A E h₀ env target body Q s ws keep r m news := by
    intro r
    induction r with
    | nil =>
      intro i m news e el hi
      refine ItemsRest.zero ?_
      have : i = xs.length := by simpa using el
      exact fin m news (this ▸ hi)
    | cons a r ih =>
      intro i m news e el hi
      have hlt : i < xs.length := by simp only [List.length_cons] at el; omega
      have hd := List.drop_eq_getElem_cons hlt
      rw [e] at hd
      injection hd with h1 h2
      intro v h tk ha F
      refine AllObj.mono ?_ (turn i a m news (by rw [h1]; exact List.getElem?_eq_getElem hlt) hi v h tk ha F)
      intro its k N
      refine wpAny_mono (k N) (fun _ s₂ q => wpAny_mono q (fun f s₃ q => unrPostW_mono (fun m' n' q => ⟨q.1, ih (i + 1) m' n' h2.symm (by simp only [List.length_cons] at el; omega) q.2⟩) q) fun _ _ e => e) fun _ _ e => e
  exact H xs 0 m news (by simp) (by simp) h0
end

/-- a frame's names: some that are not told, a list for the rest -/
abbrev hol (hs : List Str) (U : Str → Option Value) (l : List (Str × Value)) : Str → Option Value := fun y => if hs.contains y then U y else List.lookup y l
def HolE (hs : List Str) (M : Str → Option Value) (l : List (Str × Value)) : Prop := ∀ y, hs.contains y = false → M y = List.lookup y l
theorem hol0 {hs : List Str} {M : Str → Option Value} {l : List (Str × Value)} (e : ∀ y, M y = List.lookup y l) : HolE hs M l := fun y _ => e y
theorem holB {hs : List Str} {U : Str → Option Value} {l : List (Str × Value)} : HolE hs (hol hs U l) l := fun y h => by
  show (if hs.contains y = true then U y else List.lookup y l) = _
  rw [h]; rfl
theorem holP {hs : List Str} {M : Str → Option Value} {x : Str} {v : Value} {l : List (Str × Value)} (e : HolE hs M l) : HolE hs (fun y => if y = x then some v else M y) (putA x v l) := fun y h => by
  show (if y = x then some v else M y) = _
  rw [putA_look, e y h]
theorem holS {hs : List Str} {M : Str → Option Value} {x : Str} {a : Option Value} {l : List (Str × Value)} (hx : hs.contains x = true) (e : HolE hs M l) : HolE hs (fun y => if y = x then a else M y) l := fun y h => by
  have : y ≠ x := fun q => by rw [q, hx] at h; cases h
  show (if y = x then a else M y) = _
  rw [if_neg this, e y h]
theorem Fr.hol {h₀ h : Heap} {L : Addr} {M : Str → Option Value} (F : Fr h₀ L h M) {hs : List Str} {l : List (Str × Value)} (e : HolE hs M l) : Fr h₀ L h (hol hs M l) := Fr.cg F fun y => by
  show M y = (if hs.contains y = true then M y else List.lookup y l)
  cases q : hs.contains y with
  | true => rfl
  | false => rw [e y q]; rfl
theorem news_skip {h₀ h : Heap} {L : Addr} {a b : Addr × Obj} {rest : List (Addr × Obj)} (N : News h₀ L h (a :: b :: rest)) : News h₀ L h (a :: rest) := fun p hp => by
  rcases List.mem_cons.mp hp with rfl | hp
  · exact N _ (.head _)
  · exact N p (.tail _ (.tail _ hp))
theorem news_mid {h₀ h : Heap} {L : Addr} {a : Addr × Obj} {own rest : List (Addr × Obj)} (N : News h₀ L h (a :: (own ++ rest))) : News h₀ L h (a :: rest) := fun p hp => by
  rcases List.mem_cons.mp hp with rfl | hp
  · exact N _ (.head _)
  · exact N p (.tail _ (List.mem_append_right _ hp))
section
theorem off_V0 : True := by
  w_top off
  trivial
local macro_rules | `(tactic| k_all) => `(tactic| assumption)
local macro_rules | `(tactic| walk_at "M enter") => `(tactic| (refine wpAny_call ?_; k_dflt (refine' code_def ?k1 ?k2 ?k3 ?k4 ?k5 ?kA ?kF ?kK ?k6 ?k7 ?k8 ?k9 ?kB ?_ ?c2 ?c3 ?c4 ?c5; (case kA => first | assumption | exact rfl); (case kF => assumption); (case kK => assumption); (case k1 => k_asm); (case k2 => k_asm); (case k3 => k_asm); (case k4 => k_asm); (case k5 => k_asm); (case k6 => k_is); (case k7 => k_is); (case k8 => first | omega | (dsimp only; omega)); (case k9 => exact BindsTo.of_eq rfl); (case c5 => decide); (case kB => exact locs rfl); (case c2 => exact rfl); (case c3 => exact rfl); (case c4 => exact rfl); k_whole)))
local macro_rules | `(tactic| walk_at "M enterT") => `(tactic| (refine wpAny_call ?_; k_dflt (refine' code_defT ?k1 ?k2 ?k3 ?k4 ?k5 ?kA ?kF ?kK ?k6 ?k7 ?k8 ?k9 ?kB ?_ ?c2 ?c3 ?c4 ?c5; (case kA => first | assumption | exact rfl); (case kF => assumption); (case kK => assumption); (case k1 => k_asm); (case k2 => k_asm); (case k3 => k_asm); (case k4 => k_asm); (case k5 => k_asm); (case k6 => k_is); (case k7 => k_is); (case k8 => first | omega | (dsimp only; omega)); (case k9 => exact BindsTo.of_eq rfl); (case c5 => decide); (case kB => exact locs rfl); (case c2 => exact rfl); (case c3 => exact rfl); (case c4 => exact rfl); k_whole)))
local macro_rules | `(tactic| walk_at "M open") => `(tactic| (rename Around => A9; rename (Around.frames _ = _) => hA9; rename (Around.handled _ = _) => hh9; revert hA9 hh9; rename (Around.depth _ + _ < _) => hd9; revert hd9; rename (Around.units _ + _ < _) => hu9; revert hu9; cases A9; dsimp only; intro hu9 hd9 hA9 hh9; subst hA9; subst hh9))
local macro_rules | `(tactic| walk_at "M noloop") => `(tactic| ((fail_if_success (with_reducible show wpAny _ _ (exec (Stmt.While _ _ _ _) _) _ _ _)); (fail_if_success (with_reducible show wpAny _ _ (exec (Stmt.For _ _ _ _ _) _) _ _ _)); (fail_if_success (with_reducible show LCg.CompSrc _ _ _ _ _ _ _ _ _ _ _ _ _ _)); (fail_if_success (with_reducible show wpAny _ _ (eval (PySem.Expr.ListComp _ _ _ _) _) _ _ _)); (fail_if_success (with_reducible show wpAny _ _ _ (fun it s₂ => PairAt3 _ _ _ _ _ _ _ _ _ _ it s₂) _ _))))
local macro_rules | `(tactic| walk_at "M go") => `(tactic| repeat' (walk_at "M noloop"; first | (k_unfold; (try dsimp only)) | (k_end; kc_close) | walk1 | (dsimp only; walk1) | (leave1; walk_say "STEP leave1"; (try dsimp only)) | fail "no step"))
local macro_rules | `(tactic| walk_at "And") => `(tactic| ((with_reducible show PySem.Str.length (_ ++ _) ≤ sizeLine ∧ wpAny _ _ (joinParts _ _) _ _ _); refine fs_and (by (simp only [len_mk, show Str.length Str.empty = 0 from rfl] at *); omega) ?_; intro zF hzF))
local macro_rules | `(tactic| walk_at "joinParts") => `(tactic| (first | (with_reducible show wpAny _ _ (joinParts _ []) _ _ _) | (with_reducible refine joinParts_nilE ?_)); refine fs_nil (by (simp only [len_mk, show Str.length Str.empty = 0 from rfl] at *); omega) ?_)
local macro_rules | `(tactic| walk_at "M enterC") => `(tactic| (refine wpAny_call ?_; k_dflt (refine' code_defC ?k1 ?k2 ?k3 ?k4 ?k5 ?kA ?kF ?kK ?k6 ?k7 ?k8 ?k9 ?kB ?kD ?_ ?c2 ?c3 ?c4; (case kA => first | assumption | exact rfl); (case kF => assumption); (case kK => assumption); (case k1 => k_asm); (case k2 => k_asm); (case k3 => k_asm); (case k4 => k_asm); (case k5 => k_asm); (case k6 => k_is); (case k7 => k_is); (case k8 => first | omega | (dsimp only; omega)); (case k9 => exact BindsTo.of_eq rfl); (case kB => exact rfl); (case kD => decide +kernel); (case c2 => exact rfl); (case c3 => exact rfl); (case c4 => exact rfl); k_whole)))
local macro_rules | `(tactic| walk_at "M next") => `(tactic| (k_here; (with_reducible show wpAny _ _ (call (Value.ref 105) [Value.ref _, Value.int _ _]) _ _ _); k_dflt (refine' next_u ?B ?F ?X ?N ?T ?hA ?hf ?hke ?hh ?hd ?hu ?hst ?hos ?U ?hsc ?m0 ?m1 ?_; (case hA => exact rfl); (case hf => exact rfl); (case hke => exact rfl); (case hh => exact rfl); (case B => k_asm); (case F => k_asm); (case X => k_asm); (case N => k_asm); (case T => k_asm); (case hst => assumption); (case hos => assumption); (case U => k_updF); (case hsc => k_mem); (case hd => ktr_room); (case hu => ktr_units); (case m0 => omega); (case m1 => omega)); intro r9 t9 o9 h9 tk9 hr0 hr1 hst9 F9 N9; (try dsimp only at N9)))
def itO (d : Addr) (i n ep : Nat) (ok ov : Value) : Obj := { cls := .type "dict_itemiterator", dict := none, data := .fields #[.none, .bool false, .ref d, .int i 0, .int n 0, .int ep 0, ok, ov], slots := #[] }
section
variable {prog : Program} {w : World} {A : Around} {E : Value → Shared → Prop} {s : Shared} {env : Env} {h₀ : Heap}
def DictE (prog : Program) (w : World) (o : Obj) (kvs : List (Str × Value)) (ep : Nat) : Prop := ∃ es, o.ExactDict ∧ o.data = .dict es ep ∧ KeysOf (strKind prog w) es ∧ Pairs (strKind prog w) es.toList kvs ∧ (kvs.map (·.1)).Nodup
theorem DictE.at {o : Obj} {kvs : List (Str × Value)} {ep : Nat} (x : DictE prog w o kvs ep) {h : Heap} {d : Addr} (hd : h.get? d = some o) : h.DictAt (strKind prog w) d kvs ep := let ⟨es, r⟩ := x; ⟨o, es, hd, r⟩
theorem DictE.ofIs {o : Obj} {kvs : List (Str × Value)} (x : o.IsDictOf (strKind prog w) kvs) : ∃ ep, DictE prog w o kvs ep := let ⟨es, ep, r⟩ := x; ⟨ep, es, r⟩
theorem DictE.is {o : Obj} {kvs : List (Str × Value)} {ep : Nat} (x : DictE prog w o kvs ep) : o.IsDictOf (strKind prog w) kvs := let ⟨es, r⟩ := x; ⟨es, ep, r⟩
/-- a store under a key that is there: the dict's count stands -/
theorem DictE.set {o : Obj} {kvs : List (Str × Value)} {ep : Nat} (x : DictE prog w o kvs ep) {d : Addr} {k : Str} {key v : Value} {Q : Unit → Shared → Prop} (ho : s.heap.get? d = some o) (hkey : (strKind prog w).is k key = true) (hin : k ∈ kvs.map (·.1))
    (hQ : ∀ h' o', h'.get? d = some o' → DictE prog w o' (stored kvs k v) ep → Heap.SameBut d s.heap h' → Q () { s with heap := h', toks := s.toks + 1 }) : wpAny (model prog w) A (dictSet d key v) Q E s := by
  obtain ⟨es, hc, hd, hk, hp, hn⟩ := x
  unfold dictSet
  refine wpAny_holding (wpAny_bind ((strKind prog w).pyHash hkey ?_))
  unfold dictSetHashed
  refine wpAny_holding (wpAny_bind (wpAny_dictFind_of (s := { s with toks := s.toks + 1 }) hkey ho hd hk ?_))
  have hidx : (es.findIdx? fun e => (strKind prog w).is k e.key) = kvs.findIdx? fun kv => decide (kv.1 = k) := by
    rw [← hp.findIdx k]
    obtain ⟨l⟩ := es
    simp
  have hst : stored kvs k v = kvs.map fun kv => if kv.1 = k then (kv.1, v) else kv := by
    unfold stored
    refine if_pos ?_
    obtain ⟨kv, hm, e⟩ := List.mem_map.mp hin
    exact List.any_eq_true.mpr ⟨kv, hm, decide_eq_true e⟩
  cases hi : es.findIdx? fun e => (strKind prog w).is k e.key with
  | none => exact absurd hin (not_mem_of_findIdx_none (hidx ▸ hi))
  | some i =>
    refine wpAny_bind (wpAny_rule (wpAny_bind (wpAny_updateDict (s := { s with toks := s.toks + 1 }) ho hd (wpAny_point (hQ _ _ (Heap.get?_update_self _ ho (Obj.isFreed_of_dict (Obj.data_mapDict hd _))) ⟨_, hc.mapDict _, Obj.data_mapDict hd _, hk.modify _ _, ?_, ?_⟩ (Heap.SameBut.update ..))))))
    · rw [hst]
      have hl : (es.toList.findIdx? fun e => (strKind prog w).is k e.key) = some i := by
        rw [← hi]
        obtain ⟨l⟩ := es
        simp
      have := hp.modify hn hl v
      obtain ⟨l⟩ := es
      simpa using this
    · rw [hst, keys_map_store]
      exact hn
theorem items_loop {R : Result → Shared → Prop} {elts : List PySem.Expr} {x1 : Nat} {pos : Pos} {body : List Stmt} {I d : Addr} {n ep : Nat} {m₀ : Str → Option Value} {news : List (Addr × Obj)} {od : Obj} {kvs₀ : List (Str × Value)} {ok₀ ov₀ : Value}
    (hh : A.handled = none) (hdI : d ≠ I) (hnI : ∀ p ∈ news, p.1 ≠ I) (F : Fr h₀ env.locals s.heap m₀) (N : News h₀ env.locals s.heap ((I, itO d 0 n ep ok₀ ov₀) :: (d, od) :: news)) (hd : DictE prog w od kvs₀ ep) (hn : kvs₀.length = n)
    (J : Nat → (Str → Option Value) → List (Str × Value) → Prop) (h0 : J 0 m₀ kvs₀)
    (turn : ∀ i m kvs od T key k x h tk iO, i < n → J i m kvs → kvs.length = n → kvs[i]? = some (k, x) → DictE prog w od kvs ep → (strKind prog w).is k key = true → h.IsTuple T #[key, x] → Fr h₀ env.locals h m → News h₀ env.locals h ((I, iO) :: (d, od) :: news) →
      wpAny (model prog w) A (assign (.Tuple elts x1 pos) env (.ref T)) (fun _ s₂ => wpAny (model prog w) A (execs body env) (fun f s₃ => f = .next ∧ ∃ h' tk' m' kvs' od', s₃ = { s with heap := h', toks := tk' } ∧ Fr h₀ env.locals h' m' ∧ News h₀ env.locals h' ((I, iO) :: (d, od') :: news) ∧
        DictE prog w od' kvs' ep ∧ kvs'.length = n ∧ J (i + 1) m' kvs') (notedBy (model prog w) A env fun e s' => R (.error e) s') s₂) (notedBy (model prog w) A env fun e s' => R (.error e) s') { s with heap := h, toks := tk })
    (fin : ∀ h tk m kvs od, Fr h₀ env.locals h m → News h₀ env.locals h ((d, od) :: news) → DictE prog w od kvs ep → J n m kvs → R (.ok .next) { s with heap := h, toks := tk }) :
    codeAny (model prog w) A (.forLoop (.Tuple elts x1 pos) (.ref I) body [] env) R s := by
  refine codeAny_forLoop_any (fun k s' => ∃ h' tk m kvs od ok ov i, s' = { s with heap := h', toks := tk } ∧ Fr h₀ env.locals h' m ∧ News h₀ env.locals h' ((I, itO d i n ep ok ov) :: (d, od) :: news) ∧ DictE prog w od kvs ep ∧ kvs.length = n ∧ J i m kvs ∧ i ≤ n ∧ k = n + 1 - i) ?_ (n + 1)
    ⟨s.heap, s.toks, m₀, kvs₀, od, ok₀, ov₀, 0, rfl, F, N, hd, hn, h0, Nat.zero_le _, rfl⟩
  rintro k s' ⟨h', tk, m, kvs, od, ok, ov, i, rfl, F', N', hd', hl, hJ, hi, rfl⟩
  have nI := N' _ (.head _)
  have nD := N' _ (.tail _ (.head _))
  have hit : IsItemIter h' I d i kvs.length ep ok ov := by rw [hl]; exact nI.1
  have keepF : ∀ h₁ : Heap, (∀ b o, b ≠ I → h'.get? b = some o → h₁.get? b = some o) → Fr h₀ env.locals h₁ m := fun h₁ hk =>
    ⟨F'.ns.at' fun o e => hk _ o (fun q => nI.2.1 q.symm) e, fun b o e => hk b o (fun q => by rw [q, nI.2.2] at e; cases e) (F'.keep b o e), F'.above⟩
  have keepN : ∀ h₁ : Heap, (∀ b o, b ≠ I → h'.get? b = some o → h₁.get? b = some o) → ∀ iO, h₁.get? I = some iO → News h₀ env.locals h₁ ((I, iO) :: (d, od) :: news) := fun h₁ hk iO hI p hp => by
    rcases List.mem_cons.mp hp with rfl | hp
    · exact ⟨hI, nI.2⟩
    · refine ⟨hk _ _ ?_ (N' p (.tail _ hp)).1, (N' p (.tail _ hp)).2⟩
      rcases List.mem_cons.mp hp with rfl | hp
      · exact hdI
      · exact hnI p hp
  by_cases hlt : i < n
  · obtain ⟨⟨k, x⟩, hx⟩ : ∃ p, kvs[i]? = some p := ⟨kvs[i]'(by omega), by simp [hl, hlt]⟩
    refine wpAny_pyNext_items_item hit (hd'.at nD.1) hx fun key h1 hkey ho hT hsz hk1 => ?_
    refine wpAny_letOwnedTupleGo_items ho fun h2 he2 hs2 => ?_
    have kk : ∀ b o, b ≠ I → h'.get? b = some o → h2.get? b = some o := fun b o hb e => (hs2.2 b hb).trans (hk1 b o hb e)
    rw [hl] at he2
    have hTI : h'.objs.size ≠ I := Nat.ne_of_gt (Heap.lt_size nI.1)
    refine wpAny_mono (turn i m kvs od h'.objs.size key k x h2 tk (itO d (i + 1) n ep key x) hlt hJ hl hx hd' hkey ⟨_, (hs2.2 _ hTI).trans hT, rfl, _, rfl⟩ (keepF h2 kk) (keepN h2 kk _ he2)) (fun _ s₂ q => wpAny_mono q (fun f s₃ q => ?_) fun _ _ e => e) fun _ _ e => e
    obtain ⟨rfl, h3, tk3, m3, kvs3, od3, rfl, F3, N3, hd3, hl3, hJ3⟩ := q
    exact ⟨n + 1 - (i + 1), by omega, h3, tk3, m3, kvs3, od3, _, _, i + 1, rfl, F3, N3, hd3, hl3, hJ3, hlt, rfl⟩
  · have hin : i = n := by omega
    subst hin
    refine wpAny_pyNext_items_end hh hit (hd'.at nD.1) (by simp [hl]) fun h1 hx1 => ?_
    show wpAny _ _ (execs [] env) _ _ _
    rw [execs_nil]
    refine wpAny_pure ?_
    have kk : ∀ b o, b ≠ I → h'.get? b = some o → h1.get? b = some o := fun b o hb e => hx1 b o hb e
    refine fin h1 tk m kvs od (keepF h1 kk) (fun p hp => ?_) hd' hJ
    refine ⟨kk _ _ ?_ (N' p (.tail _ hp)).1, (N' p (.tail _ hp)).2⟩
    rcases List.mem_cons.mp hp with rfl | hp
    · exact hdI
    · exact hnI p hp
end
end
section
theorem off_N2 : True := by
  w_top off
  trivial
local macro_rules | `(tactic| walk_at "M none") => `(tactic| fail "none")
local macro_rules | `(tactic| walk_at "M none") => `(tactic| fail "none")
local macro_rules | `(tactic| walk_at "M none") => `(tactic| fail "none")
local macro_rules | `(tactic| walk_at "M none") => `(tactic| fail "none")
local macro_rules | `(tactic| walk_at "M none") => `(tactic| fail "none")
local macro_rules | `(tactic| walk_at "M none") => `(tactic| fail "none")
local macro_rules | `(tactic| walk_at "M none") => `(tactic| fail "none")
local macro_rules | `(tactic| walk_at "M none") => `(tactic| fail "none")
local macro_rules | `(tactic| walk_at "M none") => `(tactic| fail "none")
local macro_rules | `(tactic| walk_at "M none") => `(tactic| fail "none")
local macro_rules | `(tactic| walk_at "M none") => `(tactic| fail "none")
local macro_rules | `(tactic| walk_at "M none") => `(tactic| fail "none")
local macro_rules | `(tactic| walk_at "M none") => `(tactic| fail "none")
local macro_rules | `(tactic| walk_at "M none") => `(tactic| fail "none")
local macro_rules | `(tactic| walk_at "M none") => `(tactic| fail "none")
local macro_rules | `(tactic| walk_at "M none") => `(tactic| fail "none")
local macro_rules | `(tactic| walk_at "M none") => `(tactic| fail "none")
local macro_rules | `(tactic| walk_at "M none") => `(tactic| fail "none")
local macro_rules | `(tactic| walk_at "M none") => `(tactic| fail "none")
local macro_rules | `(tactic| walk_at "M none") => `(tactic| fail "none")
local macro_rules | `(tactic| walk_at "M none") => `(tactic| fail "none")
local macro_rules | `(tactic| walk_at "M none") => `(tactic| fail "none")
local macro_rules | `(tactic| walk_at "M none") => `(tactic| fail "none")
local macro_rules | `(tactic| walk_at "M none") => `(tactic| fail "none")
local macro_rules | `(tactic| walk_at "M none") => `(tactic| fail "none")
local macro_rules | `(tactic| walk_at "M none") => `(tactic| fail "none")
local macro_rules | `(tactic| walk_at "M none") => `(tactic| fail "none")
local macro_rules | `(tactic| walk_at "M none") => `(tactic| fail "none")
local macro_rules | `(tactic| walk_at "M none") => `(tactic| fail "none")
local macro_rules | `(tactic| walk_at "M none") => `(tactic| fail "none")
local macro_rules | `(tactic| k_all) => `(tactic| assumption)
local macro_rules | `(tactic| walk_at "M enter") => `(tactic| (refine wpAny_call ?_; k_dflt (refine' code_def ?k1 ?k2 ?k3 ?k4 ?k5 ?kA ?kF ?kK ?k6 ?k7 ?k8 ?k9 ?kB ?_ ?c2 ?c3 ?c4 ?c5; (case kA => first | assumption | exact rfl); (case kF => assumption); (case kK => assumption); (case k1 => k_asm); (case k2 => k_asm); (case k3 => k_asm); (case k4 => k_asm); (case k5 => k_asm); (case k6 => k_is); (case k7 => k_is); (case k8 => first | omega | (dsimp only; omega)); (case k9 => exact BindsTo.of_eq rfl); (case c5 => decide); (case kB => exact locs rfl); (case c2 => exact rfl); (case c3 => exact rfl); (case c4 => exact rfl); k_whole)))
local macro_rules | `(tactic| walk_at "M enterT") => `(tactic| (refine wpAny_call ?_; k_dflt (refine' code_defT ?k1 ?k2 ?k3 ?k4 ?k5 ?kA ?kF ?kK ?k6 ?k7 ?k8 ?k9 ?kB ?_ ?c2 ?c3 ?c4 ?c5; (case kA => first | assumption | exact rfl); (case kF => assumption); (case kK => assumption); (case k1 => k_asm); (case k2 => k_asm); (case k3 => k_asm); (case k4 => k_asm); (case k5 => k_asm); (case k6 => k_is); (case k7 => k_is); (case k8 => first | omega | (dsimp only; omega)); (case k9 => exact BindsTo.of_eq rfl); (case c5 => decide); (case kB => exact locs rfl); (case c2 => exact rfl); (case c3 => exact rfl); (case c4 => exact rfl); k_whole)))
local macro_rules | `(tactic| walk_at "M open") => `(tactic| (rename Around => A9; rename (Around.frames _ = _) => hA9; rename (Around.handled _ = _) => hh9; revert hA9 hh9; rename (Around.depth _ + _ < _) => hd9; revert hd9; rename (Around.units _ + _ < _) => hu9; revert hu9; cases A9; dsimp only; intro hu9 hd9 hA9 hh9; subst hA9; subst hh9))
local macro_rules | `(tactic| walk_at "M noloop") => `(tactic| ((fail_if_success (with_reducible show wpAny _ _ (exec (Stmt.While _ _ _ _) _) _ _ _)); (fail_if_success (with_reducible show wpAny _ _ (exec (Stmt.For _ _ _ _ _) _) _ _ _)); (fail_if_success (with_reducible show LCg.CompSrc _ _ _ _ _ _ _ _ _ _ _ _ _ _)); (fail_if_success (with_reducible show wpAny _ _ (eval (PySem.Expr.ListComp _ _ _ _) _) _ _ _)); (fail_if_success (with_reducible show wpAny _ _ _ (fun it s₂ => PairAt3 _ _ _ _ _ _ _ _ _ _ it s₂) _ _))))
local macro_rules | `(tactic| walk_at "M go") => `(tactic| repeat' (walk_at "M noloop"; first | (k_unfold; (try dsimp only)) | (k_end; kc_close) | walk1 | (dsimp only; walk1) | (leave1; walk_say "STEP leave1"; (try dsimp only)) | fail "no step"))
local macro_rules | `(tactic| walk_at "And") => `(tactic| ((with_reducible show PySem.Str.length (_ ++ _) ≤ sizeLine ∧ wpAny _ _ (joinParts _ _) _ _ _); refine fs_and (by (simp only [len_mk, show Str.length Str.empty = 0 from rfl] at *); omega) ?_; intro zF hzF))
local macro_rules | `(tactic| walk_at "joinParts") => `(tactic| (first | (with_reducible show wpAny _ _ (joinParts _ []) _ _ _) | (with_reducible refine joinParts_nilE ?_)); refine fs_nil (by (simp only [len_mk, show Str.length Str.empty = 0 from rfl] at *); omega) ?_)
local macro_rules | `(tactic| walk_at "M enterC") => `(tactic| (refine wpAny_call ?_; k_dflt (refine' code_defC ?k1 ?k2 ?k3 ?k4 ?k5 ?kA ?kF ?kK ?k6 ?k7 ?k8 ?k9 ?kB ?kD ?_ ?c2 ?c3 ?c4; (case kA => first | assumption | exact rfl); (case kF => assumption); (case kK => assumption); (case k1 => k_asm); (case k2 => k_asm); (case k3 => k_asm); (case k4 => k_asm); (case k5 => k_asm); (case k6 => k_is); (case k7 => k_is); (case k8 => first | omega | (dsimp only; omega)); (case k9 => exact BindsTo.of_eq rfl); (case kB => exact rfl); (case kD => decide +kernel); (case c2 => exact rfl); (case c3 => exact rfl); (case c4 => exact rfl); k_whole)))
local macro_rules | `(tactic| walk_at "M next") => `(tactic| (k_here; (with_reducible show wpAny _ _ (call (Value.ref 105) [Value.ref _, Value.int _ _]) _ _ _); k_dflt (refine' next_u ?B ?F ?X ?N ?T ?hA ?hf ?hke ?hh ?hd ?hu ?hst ?hos ?U ?hsc ?m0 ?m1 ?_; (case hA => exact rfl); (case hf => exact rfl); (case hke => exact rfl); (case hh => exact rfl); (case B => k_asm); (case F => k_asm); (case X => k_asm); (case N => k_asm); (case T => k_asm); (case hst => assumption); (case hos => assumption); (case U => k_updF); (case hsc => k_mem); (case hd => ktr_room); (case hu => ktr_units); (case m0 => omega); (case m1 => omega)); intro r9 t9 o9 h9 tk9 hr0 hr1 hst9 F9 N9; (try dsimp only at N9)))
/-- the letters of a number, upper case, as codes -/
def lettersL : Nat → Nat → List Nat
  | 0, _ => []
  | f + 1, n => if n = 0 then [] else lettersL f ((n - 1) / 26) ++ [65 + (n - 1) % 26]
def lettersB : Nat → Nat
  | 0 => 0
  | f + 1 => 26 * lettersB f + 26
theorem str_cons (c : Nat) (l : List Nat) : (⟨#[c]⟩ : Str) ++ ⟨l.toArray⟩ = ⟨(c :: l).toArray⟩ := by
  apply congrArg Str.mk
  simp
theorem item_AZ : ∀ r : Nat, r < 26 → Txt.item (Str.ofString "ABCDEFGHIJKLMNOPQRSTUVWXYZ") (r : Int) = (⟨#[65 + r]⟩ : Str) := by decide +kernel
theorem letters_c {w : World} {p : Program} {loose : List Str} {mean : ExcName → Option Value} {mg mb : Str → Option Value}
    {A A₀ : Around} {env : Env} {outer : List Env} {base h₀ : Heap} {L : Addr} {m : Str → Option Value} {news : List (Addr × Obj)} {s : Shared}
    {Q E : Value → Shared → Prop} {n : Nat} {t : Tok}
    (B : Below A₀ base outer h₀) (F : Fr h₀ L s.heap m) (X : (Mine.hd.heap_39 w.params).In h₀)
    (N : News h₀ L s.heap news) (T : Top p loose mean mg mb h₀)
    (hA : A.frames = some (env :: outer)) (hf : env.frame = some L) (hke : env.scope.kind = .function) (hh : A.handled = none)
    (hd : A.depth + 10 < recursionLimit) (hu : A.units + 80 < cLine) (hn : n ≤ 20000)
    (hret : ∀ t h' tk', Fr h₀ L h' m → News h₀ L h' news → Q (.str ⟨(lettersL 5 n).toArray⟩ t) { s with heap := h', toks := tk' }) :
    wpAny (model PySem.Challenge.rw_ez0207_01.row.prog w) A (call (.ref 112) [.int n t]) Q E s := by
  walk_at "M enter"
  intro g' L' h' FG' F' N' B' X' T'
  dsimp only
  clear hA hf hke B F X T N
  walk_at "M go"
  rename_i hh1 F1 N1
  have F2 : Fr g' L' hh1 (fun y => List.lookup y [(Str.ofString "number", .int n t), (Str.ofString "out", .str ⟨#[]⟩ tk)]) := Fr.cg F1 (putE (l := [(Str.ofString "number", .int n t)]) (fun _ => rfl))
  clear F1
  refine While_inv (fun k m₁ news₁ => news₁ = news ∧ ∃ f out t t', k ≤ lettersB f ∧ out.length + f ≤ 5 ∧ lettersL f k ++ out = lettersL 5 n ∧ m₁ = (fun y => List.lookup y [(Str.ofString "number", .int (k : Nat) t), (Str.ofString "out", .str ⟨out.toArray⟩ t')])) (n₀ := n) F2 N1 ⟨rfl, 5, [], t, tk, (by simp [lettersB]; omega), (by simp), (by simp), rfl⟩ ?_
  rintro k m₁ news₁ h₁ tk₁ F₁ N₁ ⟨rfl, f, out, t₁, t₂, hk, ho, he, rfl⟩
  try k_fold
  walk_at "M go"
  · rename_i hpos _ _ _ _ _ hz Fz Nz
    obtain ⟨j, rfl⟩ : ∃ j, k = j + 1 := ⟨k - 1, by omega⟩
    cases f with
    | zero => simp [lettersB] at hk
    | succ f =>
      have e1 : (((j + 1 : Nat) : Int) - 1).fmod 26 = ((j % 26 : Nat) : Int) := by
        rw [Int.fmod_eq_emod_of_nonneg _ (by omega)]; omega
      have e2 : (((j + 1 : Nat) : Int) - 1).fdiv 26 = ((j / 26 : Nat) : Int) := by
        rw [Int.fdiv_eq_ediv_of_nonneg _ (by omega)]; omega
      rw [e1, item_AZ _ (Nat.mod_lt _ (by omega)), e2, str_cons] at Fz
      obtain ⟨ta, tb, Fy⟩ : ∃ ta tb, Fr g' L' hz (fun y => List.lookup y [(Str.ofString "number", .int (j / 26 : Nat) ta), (Str.ofString "out", .str ⟨((65 + j % 26) :: out).toArray⟩ tb)]) := ⟨_, _, Fr.cg Fz (putE (putE fun _ => rfl))⟩
      refine WhileStep.intro (n' := j / 26) Fy (by assumption) (by omega) ⟨rfl, f, (65 + j % 26) :: out, _, _, ?_, ?_, ?_, rfl⟩
      · simp only [lettersB] at hk; omega
      · simp only [List.length_cons]; omega
      · rw [← he]; simp [lettersL]
  · refine leaveK_ (by assumption) (by assumption) ?_
    intro F9 N9
    have k0 : k = 0 := by omega
    subst k0
    have : out = lettersL 5 n := by rw [← he]; cases f <;> simp [lettersL]
    rw [this]
    exact hret _ _ _ F9 N9

theorem letters_i {w : World} {p : Program} {loose : List Str} {mean : ExcName → Option Value} {mg mb : Str → Option Value}
    {A A₀ : Around} {env : Env} {outer : List Env} {base h₀ : Heap} {L : Addr} {m : Str → Option Value} {news : List (Addr × Obj)} {s : Shared}
    {Q E : Value → Shared → Prop} {k : Int} {t : Tok}
    (B : Below A₀ base outer h₀) (F : Fr h₀ L s.heap m) (X : (Mine.hd.heap_39 w.params).In h₀)
    (N : News h₀ L s.heap news) (T : Top p loose mean mg mb h₀)
    (hA : A.frames = some (env :: outer)) (hf : env.frame = some L) (hke : env.scope.kind = .function) (hh : A.handled = none)
    (hd : A.depth + 10 < recursionLimit) (hu : A.units + 80 < cLine) (hn0 : 0 ≤ k) (hn : k ≤ 20000)
    (hret : ∀ t h' tk', Fr h₀ L h' m → News h₀ L h' news → Q (.str ⟨(lettersL 5 k.toNat).toArray⟩ t) { s with heap := h', toks := tk' }) :
    wpAny (model PySem.Challenge.rw_ez0207_01.row.prog w) A (call (.ref 112) [.int k t]) Q E s := by
  obtain ⟨n, rfl⟩ : ∃ n : Nat, k = n := ⟨k.toNat, by omega⟩
  rw [Int.toNat_natCast] at hret
  exact letters_c B F X N T hA hf hke hh hd hu (by omega) hret
end
section
theorem off_N4 : True := by
  w_top off
  trivial
local macro_rules | `(tactic| walk_at "M none") => `(tactic| fail "none")
local macro_rules | `(tactic| walk_at "M none") => `(tactic| fail "none")
local macro_rules | `(tactic| walk_at "M none") => `(tactic| fail "none")
local macro_rules | `(tactic| walk_at "M none") => `(tactic| fail "none")
local macro_rules | `(tactic| walk_at "M none") => `(tactic| fail "none")
local macro_rules | `(tactic| walk_at "M none") => `(tactic| fail "none")
local macro_rules | `(tactic| walk_at "M none") => `(tactic| fail "none")
local macro_rules | `(tactic| walk_at "M none") => `(tactic| fail "none")
local macro_rules | `(tactic| walk_at "M none") => `(tactic| fail "none")
local macro_rules | `(tactic| walk_at "M none") => `(tactic| fail "none")
local macro_rules | `(tactic| walk_at "M none") => `(tactic| fail "none")
local macro_rules | `(tactic| walk_at "M none") => `(tactic| fail "none")
local macro_rules | `(tactic| walk_at "M none") => `(tactic| fail "none")
local macro_rules | `(tactic| walk_at "M none") => `(tactic| fail "none")
local macro_rules | `(tactic| walk_at "M none") => `(tactic| fail "none")
local macro_rules | `(tactic| walk_at "M none") => `(tactic| fail "none")
local macro_rules | `(tactic| walk_at "M none") => `(tactic| fail "none")
local macro_rules | `(tactic| walk_at "M none") => `(tactic| fail "none")
local macro_rules | `(tactic| walk_at "M none") => `(tactic| fail "none")
local macro_rules | `(tactic| walk_at "M none") => `(tactic| fail "none")
local macro_rules | `(tactic| walk_at "M none") => `(tactic| fail "none")
local macro_rules | `(tactic| walk_at "M none") => `(tactic| fail "none")
local macro_rules | `(tactic| walk_at "M none") => `(tactic| fail "none")
local macro_rules | `(tactic| walk_at "M none") => `(tactic| fail "none")
local macro_rules | `(tactic| walk_at "M none") => `(tactic| fail "none")
local macro_rules | `(tactic| walk_at "M none") => `(tactic| fail "none")
local macro_rules | `(tactic| walk_at "M none") => `(tactic| fail "none")
local macro_rules | `(tactic| walk_at "M none") => `(tactic| fail "none")
local macro_rules | `(tactic| walk_at "M none") => `(tactic| fail "none")
local macro_rules | `(tactic| walk_at "M none") => `(tactic| fail "none")
local macro_rules | `(tactic| walk_at "M none") => `(tactic| fail "none")
local macro_rules | `(tactic| walk_at "M none") => `(tactic| fail "none")
local macro_rules | `(tactic| walk_at "M none") => `(tactic| fail "none")
local macro_rules | `(tactic| walk_at "M none") => `(tactic| fail "none")
local macro_rules | `(tactic| walk_at "M none") => `(tactic| fail "none")
local macro_rules | `(tactic| walk_at "M none") => `(tactic| fail "none")
local macro_rules | `(tactic| walk_at "M none") => `(tactic| fail "none")
local macro_rules | `(tactic| walk_at "M none") => `(tactic| fail "none")
local macro_rules | `(tactic| walk_at "M none") => `(tactic| fail "none")
local macro_rules | `(tactic| walk_at "M none") => `(tactic| fail "none")
local macro_rules | `(tactic| walk_at "M none") => `(tactic| fail "none")
local macro_rules | `(tactic| walk_at "M none") => `(tactic| fail "none")
local macro_rules | `(tactic| walk_at "M none") => `(tactic| fail "none")
local macro_rules | `(tactic| walk_at "M none") => `(tactic| fail "none")
local macro_rules | `(tactic| walk_at "M none") => `(tactic| fail "none")
local macro_rules | `(tactic| walk_at "M none") => `(tactic| fail "none")
local macro_rules | `(tactic| walk_at "M none") => `(tactic| fail "none")
local macro_rules | `(tactic| walk_at "M none") => `(tactic| fail "none")
local macro_rules | `(tactic| walk_at "M none") => `(tactic| fail "none")
local macro_rules | `(tactic| walk_at "M none") => `(tactic| fail "none")
local macro_rules | `(tactic| walk_at "M none") => `(tactic| fail "none")
local macro_rules | `(tactic| walk_at "M none") => `(tactic| fail "none")
local macro_rules | `(tactic| walk_at "M none") => `(tactic| fail "none")
local macro_rules | `(tactic| walk_at "M none") => `(tactic| fail "none")
local macro_rules | `(tactic| walk_at "M none") => `(tactic| fail "none")
local macro_rules | `(tactic| walk_at "M none") => `(tactic| fail "none")
local macro_rules | `(tactic| walk_at "M none") => `(tactic| fail "none")
local macro_rules | `(tactic| walk_at "M none") => `(tactic| fail "none")
local macro_rules | `(tactic| walk_at "M none") => `(tactic| fail "none")
local macro_rules | `(tactic| walk_at "M none") => `(tactic| fail "none")
local macro_rules | `(tactic| k_all) => `(tactic| assumption)
local macro_rules | `(tactic| walk_at "M enter") => `(tactic| (refine wpAny_call ?_; k_dflt (refine' code_def ?k1 ?k2 ?k3 ?k4 ?k5 ?kA ?kF ?kK ?k6 ?k7 ?k8 ?k9 ?kB ?_ ?c2 ?c3 ?c4 ?c5; (case kA => first | assumption | exact rfl); (case kF => assumption); (case kK => assumption); (case k1 => k_asm); (case k2 => k_asm); (case k3 => k_asm); (case k4 => k_asm); (case k5 => k_asm); (case k6 => k_is); (case k7 => k_is); (case k8 => first | omega | (dsimp only; omega)); (case k9 => exact BindsTo.of_eq rfl); (case c5 => decide); (case kB => exact locs rfl); (case c2 => exact rfl); (case c3 => exact rfl); (case c4 => exact rfl); k_whole)))
local macro_rules | `(tactic| walk_at "M enterT") => `(tactic| (refine wpAny_call ?_; k_dflt (refine' code_defT ?k1 ?k2 ?k3 ?k4 ?k5 ?kA ?kF ?kK ?k6 ?k7 ?k8 ?k9 ?kB ?_ ?c2 ?c3 ?c4 ?c5; (case kA => first | assumption | exact rfl); (case kF => assumption); (case kK => assumption); (case k1 => k_asm); (case k2 => k_asm); (case k3 => k_asm); (case k4 => k_asm); (case k5 => k_asm); (case k6 => k_is); (case k7 => k_is); (case k8 => first | omega | (dsimp only; omega)); (case k9 => exact BindsTo.of_eq rfl); (case c5 => decide); (case kB => exact locs rfl); (case c2 => exact rfl); (case c3 => exact rfl); (case c4 => exact rfl); k_whole)))
local macro_rules | `(tactic| walk_at "M open") => `(tactic| (rename Around => A9; rename (Around.frames _ = _) => hA9; rename (Around.handled _ = _) => hh9; revert hA9 hh9; rename (Around.depth _ + _ < _) => hd9; revert hd9; rename (Around.units _ + _ < _) => hu9; revert hu9; cases A9; dsimp only; intro hu9 hd9 hA9 hh9; subst hA9; subst hh9))
local macro_rules | `(tactic| walk_at "M noloop") => `(tactic| ((fail_if_success (with_reducible show wpAny _ _ (exec (Stmt.While _ _ _ _) _) _ _ _)); (fail_if_success (with_reducible show wpAny _ _ (exec (Stmt.For _ _ _ _ _) _) _ _ _)); (fail_if_success (with_reducible show LCg.CompSrc _ _ _ _ _ _ _ _ _ _ _ _ _ _)); (fail_if_success (with_reducible show wpAny _ _ (eval (PySem.Expr.ListComp _ _ _ _) _) _ _ _)); (fail_if_success (with_reducible show wpAny _ _ _ (fun it s₂ => PairAt3 _ _ _ _ _ _ _ _ _ _ it s₂) _ _))))
local macro_rules | `(tactic| walk_at "M go") => `(tactic| repeat' (walk_at "M noloop"; first | (k_unfold; (try dsimp only)) | (k_end; kc_close) | walk1 | (dsimp only; walk1) | (leave1; walk_say "STEP leave1"; (try dsimp only)) | fail "no step"))
local macro_rules | `(tactic| walk_at "And") => `(tactic| ((with_reducible show PySem.Str.length (_ ++ _) ≤ sizeLine ∧ wpAny _ _ (joinParts _ _) _ _ _); refine fs_and (by (simp only [len_mk, show Str.length Str.empty = 0 from rfl] at *); omega) ?_; intro zF hzF))
local macro_rules | `(tactic| walk_at "joinParts") => `(tactic| (first | (with_reducible show wpAny _ _ (joinParts _ []) _ _ _) | (with_reducible refine joinParts_nilE ?_)); refine fs_nil (by (simp only [len_mk, show Str.length Str.empty = 0 from rfl] at *); omega) ?_)
local macro_rules | `(tactic| walk_at "M enterC") => `(tactic| (refine wpAny_call ?_; k_dflt (refine' code_defC ?k1 ?k2 ?k3 ?k4 ?k5 ?kA ?kF ?kK ?k6 ?k7 ?k8 ?k9 ?kB ?kD ?_ ?c2 ?c3 ?c4; (case kA => first | assumption | exact rfl); (case kF => assumption); (case kK => assumption); (case k1 => k_asm); (case k2 => k_asm); (case k3 => k_asm); (case k4 => k_asm); (case k5 => k_asm); (case k6 => k_is); (case k7 => k_is); (case k8 => first | omega | (dsimp only; omega)); (case k9 => exact BindsTo.of_eq rfl); (case kB => exact rfl); (case kD => decide +kernel); (case c2 => exact rfl); (case c3 => exact rfl); (case c4 => exact rfl); k_whole)))
local macro_rules | `(tactic| walk_at "M next") => `(tactic| (k_here; (with_reducible show wpAny _ _ (call (Value.ref 105) [Value.ref _, Value.int _ _]) _ _ _); k_dflt (refine' next_u ?B ?F ?X ?N ?T ?hA ?hf ?hke ?hh ?hd ?hu ?hst ?hos ?U ?hsc ?m0 ?m1 ?_; (case hA => exact rfl); (case hf => exact rfl); (case hke => exact rfl); (case hh => exact rfl); (case B => k_asm); (case F => k_asm); (case X => k_asm); (case N => k_asm); (case T => k_asm); (case hst => assumption); (case hos => assumption); (case U => k_updF); (case hsc => k_mem); (case hd => ktr_room); (case hu => ktr_units); (case m0 => omega); (case m1 => omega)); intro r9 t9 o9 h9 tk9 hr0 hr1 hst9 F9 N9; (try dsimp only at N9)))
def abcL (k : Nat) : List Nat := if k = 0 then [] else [64 + k]
theorem abc_has (P : Params) : ∃ (l : List Value) (c : Nat), (Mine.hd.heap_39 P).lookup 74 = some ⟨.type "list", none, .seq l.toArray c, #[]⟩ ∧ ∀ k, k < 27 → ∃ t, l[k]? = some (Value.str ⟨(abcL k).toArray⟩ t) := by
  refine ⟨_, _, rfl, ?_⟩
  intro k hk
  match k, hk with
  | 0, _ | 1, _ | 2, _ | 3, _ | 4, _ | 5, _ | 6, _ | 7, _ | 8, _ | 9, _ | 10, _ | 11, _ | 12, _ | 13, _ | 14, _ | 15, _ | 16, _ | 17, _ | 18, _ | 19, _ | 20, _ | 21, _ | 22, _ | 23, _ | 24, _ | 25, _ | 26, _ => exact ⟨_, rfl⟩
  | j + 27, h => exact absurd h (by omega)
theorem abc_item {prog : Program} {w : World} {A : Around} {E : Value → Shared → Prop} {s : Shared} {h₀ : Heap} {L : Addr} {m : Str → Option Value} {value slice : PySem.Expr} {k : Int} {u : Tok} {Q : Value → Shared → Prop}
    (F : Fr h₀ L s.heap m) (X₀ : (Mine.hd.heap_39 w.params).In h₀) (h0 : 0 ≤ k) (h1 : k < 27) (h : ∀ t, Q (.str ⟨(abcL k.toNat).toArray⟩ t) s)
    (hs : subscripted slice false (.ref 74) (.int k u) = operate [.ref 74, .int k u] (getItem (.ref 74) (.int k u)) := by with_unfolding_all rfl) :
    wpAny (model prog w) A (subscriptTail value slice (.ref 74) (.int k u)) Q E s := by
  obtain ⟨l, c, hl, hi⟩ := abc_has w.params
  obtain ⟨t, ht⟩ := hi k.toNat (by omega)
  exact topList_K F X₀ hl h0 (by omega) ht (h t) hs
local macro_rules | `(tactic| walk_at "subscriptTail") => `(tactic| (k_here; (with_reducible show wpAny _ _ (subscriptTail _ _ (Value.ref 74) (Value.int _ _)) _ _ _); (with_unfolding_all refine' abc_item ?k1 ?k2 ?k3 ?k4 ?_ ?k6; (case k1 => k_asm); (case k2 => k_asm); (case k3 => l_fact); (case k4 => l_fact); (case k6 => with_unfolding_all rfl); k_whole); intro _))
local macro_rules | `(tactic| walk_at "call builtin:list.insert") => `(tactic| (k_here; (with_reducible show wpAny _ _ (call (Value.builtin "list.insert") [Value.ref _, Value.int 0 _, _]) _ _ _); k_dflt (refine' kl_insert (l := _ :: _) ?F ?N ?f (kl_ins0 _ _) ?U ?z ?_; (case F => k_asm); (case N => k_asm); (case f => decide); (case U => exact Upd.head (by k_all)); (case z => (simp only [List.length_cons]; rw [sizeLine_eq]; omega)); k_whole); intro h' F' N'))
theorem letter_c {w : World} {p : Program} {loose : List Str} {mean : ExcName → Option Value} {mg mb : Str → Option Value}
    {A A₀ : Around} {env : Env} {outer : List Env} {base h₀ : Heap} {L : Addr} {m : Str → Option Value} {news : List (Addr × Obj)} {s : Shared}
    {Q E : Value → Shared → Prop} {n : Nat} {t : Tok}
    (B : Below A₀ base outer h₀) (F : Fr h₀ L s.heap m) (X : (Mine.hd.heap_39 w.params).In h₀)
    (N : News h₀ L s.heap news) (T : Top p loose mean mg mb h₀)
    (hA : A.frames = some (env :: outer)) (hf : env.frame = some L) (hke : env.scope.kind = .function) (hh : A.handled = none)
    (hd : A.depth + 10 < recursionLimit) (hu : A.units + 80 < cLine) (hn0 : 1 ≤ n) (hn : n ≤ 18278)
    (hret : ∀ t h' tk', Fr h₀ L h' m → News h₀ L h' news → Q (.str ⟨(lettersL 5 n).toArray⟩ t) { s with heap := h', toks := tk' }) :
    wpAny (model PySem.Challenge.rw_ez0207_01.row.prog w) A (call (.ref 81) [.int n t]) Q E s := by
  obtain ⟨hnd, dp, frs, gds, un⟩ := A
  dsimp only at hA hh hd hu
  subst hA hh
  walk_at "M enter"
  intro g' L' h' FG' F' N' B' X' T'
  dsimp only
  clear hf hke B F X T N
  replace F' : Fr g' L' h' (fun y => List.lookup y [(Str.ofString "col_idx", .int n t)]) := F'
  walk_at "M go"
  · refine leaveK_ (by assumption) (by assumption) ?_
    intro F9 N9
    have e : (abcL ((n : Int)).toNat) = lettersL 5 n := by
      obtain ⟨j, rfl⟩ : ∃ j, n = j + 1 := ⟨n - 1, by omega⟩
      have h1 : (j + 1 - 1) / 26 = 0 := by omega
      have h2 : (j + 1 - 1) % 26 = j := by omega
      show _ = (if j + 1 = 0 then [] else lettersL 4 ((j + 1 - 1) / 26) ++ [65 + (j + 1 - 1) % 26])
      rw [if_neg (by omega), h1, h2]
      simp [abcL, lettersL]
      omega
    rw [e]
    exact hret _ _ _ F9 (fun p hp => N9 p (.tail _ hp))
  · first | (rename_i R _ hR hz Fz Nz _ _; have t9 : Fr g' L' hz _ := Fz; clear t9) | (rename_i R _ hR hz Fz Nz _; have t9 : Fr g' L' hz _ := Fz; clear t9) | (rename_i R _ hR hz Fz Nz _ _ _; have t9 : Fr g' L' hz _ := Fz; clear t9)
    have F2 : Fr g' L' hz (fun y => if y = Str.ofString "remainder" then none else List.lookup y [(Str.ofString "col_idx", .int (n : Nat) t), (Str.ofString "result", .ref R)]) :=
      Fr.cg (Fr.cg Fz (putE fun _ => rfl)) (look_hole rfl)
    clear Fz
    refine While_inv (fun k m₁ news₁ => ∃ f us ws c u t, news₁ = (R, listOf us.toArray c) :: news ∧ StrsAre us ws ∧ k ≤ lettersB f ∧ lettersL f k ++ ws.flatMap (fun x => x.cps.toList) = lettersL 5 n ∧ ws.length + 2 * f ≤ 10 ∧ (∀ x ∈ ws, Str.length x ≤ 1) ∧
      m₁ = (fun y => if y = Str.ofString "remainder" then u else List.lookup y [(Str.ofString "col_idx", .int (k : Nat) t), (Str.ofString "result", .ref R)])) (n₀ := n) F2 Nz ⟨5, [], [], 0, none, t, rfl, .nil, (by simp [lettersB]; omega), (by simp), (by simp), (by simp), rfl⟩ ?_
    rintro k m₁ news₁ h₁ tk₁ F₁ N₁ ⟨f, us, ws, c, u, t₁, rfl, hs, hk, he, hl, hx, rfl⟩
    walk_at "M go"
    · first | (rename_i hk0 h3 h4 h5 h6 Fz Nz _; have t9 : Fr g' L' h6 _ := Fz; clear t9) | (rename_i hk0 h3 h4 h5 h6 Fz Nz; have t9 : Fr g' L' h6 _ := Fz; clear t9) | (rename_i hk0 h3 h4 h5 h6 Fz Nz _ _; have t9 : Fr g' L' h6 _ := Fz; clear t9)
      have e1 : ((k : Int)).fmod 26 = ((k % 26 : Nat) : Int) := by rw [Int.fmod_eq_emod_of_nonneg _ (by omega)]; omega
      have e2 : ((k : Int)).fdiv 26 = ((k / 26 : Nat) : Int) := by rw [Int.fdiv_eq_ediv_of_nonneg _ (by omega)]; omega
      have hul := strsAre_len hs
      replace Nz : News g' L' h6 ((R, listOf us.toArray c) :: news) := fun p hp => Nz p (.tail _ hp)
      replace hR : ∀ p ∈ news, p.1 ≠ R := fun p hp => Nat.ne_of_lt (hR p hp)
      simp only [e1, e2, Int.toNat_natCast] at Fz ⊢
      walk_at "M go"
      · rename (Fr _ _ _ fun y => if y = Str.ofString "remainder" then _ else _) => Fw
        rename (News _ _ _ _) => Nw
        cases f with
        | zero => simp [lettersB] at hk; omega
        | succ f =>
          obtain ⟨ta, tb, Fy⟩ : ∃ ta tb, Fr g' L' _ (fun y => if y = Str.ofString "remainder" then some (.int (k % 26 : Nat) ta) else List.lookup y [(Str.ofString "col_idx", .int (k / 26 : Nat) tb), (Str.ofString "result", .ref R)]) :=
            ⟨_, _, Fr.cg Fw (putZ (putU (by decide) fun _ => rfl))⟩
          refine WhileStep.intro (n' := k / 26) Fy Nw (by omega) ⟨f, _, ⟨#[64 + k % 26]⟩ :: ws, _, _, tb, rfl, ?_, ?_, ?_, ?_, ?_, rfl⟩
          · rw [show abcL (k % 26) = [64 + k % 26] by rw [abcL, if_neg (by omega)]]
            exact .cons _ _ hs
          · simp only [lettersB] at hk; omega
          · rw [← he]
            have h1 : (k - 1) / 26 = k / 26 := by omega
            have h2 : 65 + (k - 1) % 26 = 64 + k % 26 := by omega
            simp only [lettersL, h1, h2]
            rw [if_neg (by omega)]
            simp
          · simp only [List.length_cons]; omega
          · intro x hx'
            rcases List.mem_cons.mp hx' with rfl | hx'
            · exact Nat.le_refl 1
            · exact hx x hx'
      · rename (Fr _ _ _ fun y => if y = Str.ofString "col_idx" then _ else _) => Fw
        rename (News _ _ _ _) => Nw
        cases f with
        | zero => simp [lettersB] at hk; omega
        | succ f =>
          obtain ⟨ta, tb, Fy⟩ : ∃ ta tb, Fr g' L' _ (fun y => if y = Str.ofString "remainder" then some (.int (k % 26 : Nat) ta) else List.lookup y [(Str.ofString "col_idx", .int (((k / 26 : Nat) : Int) - 1) tb), (Str.ofString "result", .ref R)]) :=
            ⟨_, _, Fr.cg Fw (putU (by decide) (putZ (putU (by decide) fun _ => rfl)))⟩
          rw [show ((k / 26 : Nat) : Int) - 1 = ((k / 26 - 1 : Nat) : Int) by omega] at Fy
          refine WhileStep.intro (n' := k / 26 - 1) Fy Nw (by omega) ⟨f, _, ⟨#[90]⟩ :: ⟨#[]⟩ :: ws, _, _, tb, rfl, ?_, ?_, ?_, ?_, ?_, rfl⟩
          · rw [show abcL (k % 26) = [] by rw [abcL, if_pos (by omega)]]
            exact .cons _ _ (.cons _ _ hs)
          · simp only [lettersB] at hk; omega
          · rw [← he]
            have h1 : (k - 1) / 26 = k / 26 - 1 := by omega
            have h2 : 65 + (k - 1) % 26 = 90 := by omega
            simp only [lettersL, h1, h2]
            rw [if_neg (by omega)]
            simp
          · simp only [List.length_cons]; omega
          · intro x hx'
            rcases List.mem_cons.mp hx' with rfl | hx'
            · exact Nat.le_refl 1
            rcases List.mem_cons.mp hx' with rfl | hx'
            · exact Nat.zero_le 1
            · exact hx x hx'
    · have hlen : (ws.map (·.length)).sum ≤ ws.length := sum_ones ws hx
      refine join_list (News.isList N₁ (.head _)) hs (by rw [show (Str.ofString "").length = 0 from rfl]; omega) ?_
      intro t9 k9
      refine leaveK_ F₁ N₁ ?_
      intro F9 N9
      have k0 : k = 0 := by omega
      subst k0
      have : ws.flatMap (fun x => x.cps.toList) = lettersL 5 n := by rw [← he]; cases f <;> simp [lettersL]
      rw [join0, this]
      exact hret _ _ _ F9 (fun p hp => N9 p (.tail _ hp))

theorem letter_i {w : World} {p : Program} {loose : List Str} {mean : ExcName → Option Value} {mg mb : Str → Option Value}
    {A A₀ : Around} {env : Env} {outer : List Env} {base h₀ : Heap} {L : Addr} {m : Str → Option Value} {news : List (Addr × Obj)} {s : Shared}
    {Q E : Value → Shared → Prop} {k : Int} {t : Tok}
    (B : Below A₀ base outer h₀) (F : Fr h₀ L s.heap m) (X : (Mine.hd.heap_39 w.params).In h₀)
    (N : News h₀ L s.heap news) (T : Top p loose mean mg mb h₀)
    (hA : A.frames = some (env :: outer)) (hf : env.frame = some L) (hke : env.scope.kind = .function) (hh : A.handled = none)
    (hd : A.depth + 10 < recursionLimit) (hu : A.units + 80 < cLine) (hn0 : 1 ≤ k) (hn : k ≤ 18278)
    (hret : ∀ t h' tk', Fr h₀ L h' m → News h₀ L h' news → Q (.str ⟨(lettersL 5 k.toNat).toArray⟩ t) { s with heap := h', toks := tk' }) :
    wpAny (model PySem.Challenge.rw_ez0207_01.row.prog w) A (call (.ref 81) [.int k t]) Q E s := by
  obtain ⟨n, rfl⟩ : ∃ n : Nat, k = n := ⟨k.toNat, by omega⟩
  rw [Int.toNat_natCast] at hret
  exact letter_c B F X N T hA hf hke hh hd hu (by omega) (by omega) hret
end
section
theorem off_N6 : True := by
  w_top off
  trivial
local macro_rules | `(tactic| walk_at "M none") => `(tactic| fail "none")
local macro_rules | `(tactic| walk_at "M none") => `(tactic| fail "none")
local macro_rules | `(tactic| walk_at "M none") => `(tactic| fail "none")
local macro_rules | `(tactic| walk_at "M none") => `(tactic| fail "none")
local macro_rules | `(tactic| walk_at "M none") => `(tactic| fail "none")
local macro_rules | `(tactic| walk_at "M none") => `(tactic| fail "none")
local macro_rules | `(tactic| walk_at "M none") => `(tactic| fail "none")
local macro_rules | `(tactic| walk_at "M none") => `(tactic| fail "none")
local macro_rules | `(tactic| walk_at "M none") => `(tactic| fail "none")
local macro_rules | `(tactic| walk_at "M none") => `(tactic| fail "none")
local macro_rules | `(tactic| walk_at "M none") => `(tactic| fail "none")
local macro_rules | `(tactic| walk_at "M none") => `(tactic| fail "none")
local macro_rules | `(tactic| walk_at "M none") => `(tactic| fail "none")
local macro_rules | `(tactic| walk_at "M none") => `(tactic| fail "none")
local macro_rules | `(tactic| walk_at "M none") => `(tactic| fail "none")
local macro_rules | `(tactic| walk_at "M none") => `(tactic| fail "none")
local macro_rules | `(tactic| walk_at "M none") => `(tactic| fail "none")
local macro_rules | `(tactic| walk_at "M none") => `(tactic| fail "none")
local macro_rules | `(tactic| walk_at "M none") => `(tactic| fail "none")
local macro_rules | `(tactic| walk_at "M none") => `(tactic| fail "none")
local macro_rules | `(tactic| walk_at "M none") => `(tactic| fail "none")
local macro_rules | `(tactic| walk_at "M none") => `(tactic| fail "none")
local macro_rules | `(tactic| walk_at "M none") => `(tactic| fail "none")
local macro_rules | `(tactic| walk_at "M none") => `(tactic| fail "none")
local macro_rules | `(tactic| walk_at "M none") => `(tactic| fail "none")
local macro_rules | `(tactic| walk_at "M none") => `(tactic| fail "none")
local macro_rules | `(tactic| walk_at "M none") => `(tactic| fail "none")
local macro_rules | `(tactic| walk_at "M none") => `(tactic| fail "none")
local macro_rules | `(tactic| walk_at "M none") => `(tactic| fail "none")
local macro_rules | `(tactic| walk_at "M none") => `(tactic| fail "none")
local macro_rules | `(tactic| walk_at "M none") => `(tactic| fail "none")
local macro_rules | `(tactic| walk_at "M none") => `(tactic| fail "none")
local macro_rules | `(tactic| walk_at "M none") => `(tactic| fail "none")
local macro_rules | `(tactic| walk_at "M none") => `(tactic| fail "none")
local macro_rules | `(tactic| walk_at "M none") => `(tactic| fail "none")
local macro_rules | `(tactic| walk_at "M none") => `(tactic| fail "none")
local macro_rules | `(tactic| walk_at "M none") => `(tactic| fail "none")
local macro_rules | `(tactic| walk_at "M none") => `(tactic| fail "none")
local macro_rules | `(tactic| walk_at "M none") => `(tactic| fail "none")
local macro_rules | `(tactic| walk_at "M none") => `(tactic| fail "none")
local macro_rules | `(tactic| walk_at "M none") => `(tactic| fail "none")
local macro_rules | `(tactic| walk_at "M none") => `(tactic| fail "none")
local macro_rules | `(tactic| walk_at "M none") => `(tactic| fail "none")
local macro_rules | `(tactic| walk_at "M none") => `(tactic| fail "none")
local macro_rules | `(tactic| walk_at "M none") => `(tactic| fail "none")
local macro_rules | `(tactic| walk_at "M none") => `(tactic| fail "none")
local macro_rules | `(tactic| walk_at "M none") => `(tactic| fail "none")
local macro_rules | `(tactic| walk_at "M none") => `(tactic| fail "none")
local macro_rules | `(tactic| walk_at "M none") => `(tactic| fail "none")
local macro_rules | `(tactic| walk_at "M none") => `(tactic| fail "none")
local macro_rules | `(tactic| walk_at "M none") => `(tactic| fail "none")
local macro_rules | `(tactic| walk_at "M none") => `(tactic| fail "none")
local macro_rules | `(tactic| walk_at "M none") => `(tactic| fail "none")
local macro_rules | `(tactic| walk_at "M none") => `(tactic| fail "none")
local macro_rules | `(tactic| walk_at "M none") => `(tactic| fail "none")
local macro_rules | `(tactic| walk_at "M none") => `(tactic| fail "none")
local macro_rules | `(tactic| walk_at "M none") => `(tactic| fail "none")
local macro_rules | `(tactic| walk_at "M none") => `(tactic| fail "none")
local macro_rules | `(tactic| walk_at "M none") => `(tactic| fail "none")
local macro_rules | `(tactic| walk_at "M none") => `(tactic| fail "none")
local macro_rules | `(tactic| walk_at "M none") => `(tactic| fail "none")
local macro_rules | `(tactic| walk_at "M none") => `(tactic| fail "none")
local macro_rules | `(tactic| walk_at "M none") => `(tactic| fail "none")
local macro_rules | `(tactic| walk_at "M none") => `(tactic| fail "none")
local macro_rules | `(tactic| walk_at "M none") => `(tactic| fail "none")
local macro_rules | `(tactic| walk_at "M none") => `(tactic| fail "none")
local macro_rules | `(tactic| walk_at "M none") => `(tactic| fail "none")
local macro_rules | `(tactic| walk_at "M none") => `(tactic| fail "none")
local macro_rules | `(tactic| walk_at "M none") => `(tactic| fail "none")
local macro_rules | `(tactic| walk_at "M none") => `(tactic| fail "none")
local macro_rules | `(tactic| walk_at "M none") => `(tactic| fail "none")
local macro_rules | `(tactic| walk_at "M none") => `(tactic| fail "none")
local macro_rules | `(tactic| walk_at "M none") => `(tactic| fail "none")
local macro_rules | `(tactic| walk_at "M none") => `(tactic| fail "none")
local macro_rules | `(tactic| walk_at "M none") => `(tactic| fail "none")
local macro_rules | `(tactic| walk_at "M none") => `(tactic| fail "none")
local macro_rules | `(tactic| walk_at "M none") => `(tactic| fail "none")
local macro_rules | `(tactic| walk_at "M none") => `(tactic| fail "none")
local macro_rules | `(tactic| walk_at "M none") => `(tactic| fail "none")
local macro_rules | `(tactic| walk_at "M none") => `(tactic| fail "none")
local macro_rules | `(tactic| walk_at "M none") => `(tactic| fail "none")
local macro_rules | `(tactic| walk_at "M none") => `(tactic| fail "none")
local macro_rules | `(tactic| walk_at "M none") => `(tactic| fail "none")
local macro_rules | `(tactic| walk_at "M none") => `(tactic| fail "none")
local macro_rules | `(tactic| walk_at "M none") => `(tactic| fail "none")
local macro_rules | `(tactic| walk_at "M none") => `(tactic| fail "none")
local macro_rules | `(tactic| walk_at "M none") => `(tactic| fail "none")
local macro_rules | `(tactic| walk_at "M none") => `(tactic| fail "none")
local macro_rules | `(tactic| walk_at "M none") => `(tactic| fail "none")
local macro_rules | `(tactic| walk_at "M none") => `(tactic| fail "none")
local macro_rules | `(tactic| k_all) => `(tactic| assumption)
local macro_rules | `(tactic| walk_at "M enter") => `(tactic| (refine wpAny_call ?_; k_dflt (refine' code_def ?k1 ?k2 ?k3 ?k4 ?k5 ?kA ?kF ?kK ?k6 ?k7 ?k8 ?k9 ?kB ?_ ?c2 ?c3 ?c4 ?c5; (case kA => first | assumption | exact rfl); (case kF => assumption); (case kK => assumption); (case k1 => k_asm); (case k2 => k_asm); (case k3 => k_asm); (case k4 => k_asm); (case k5 => k_asm); (case k6 => k_is); (case k7 => k_is); (case k8 => first | omega | (dsimp only; omega)); (case k9 => exact BindsTo.of_eq rfl); (case c5 => decide); (case kB => exact locs rfl); (case c2 => exact rfl); (case c3 => exact rfl); (case c4 => exact rfl); k_whole)))
local macro_rules | `(tactic| walk_at "M enterT") => `(tactic| (refine wpAny_call ?_; k_dflt (refine' code_defT ?k1 ?k2 ?k3 ?k4 ?k5 ?kA ?kF ?kK ?k6 ?k7 ?k8 ?k9 ?kB ?_ ?c2 ?c3 ?c4 ?c5; (case kA => first | assumption | exact rfl); (case kF => assumption); (case kK => assumption); (case k1 => k_asm); (case k2 => k_asm); (case k3 => k_asm); (case k4 => k_asm); (case k5 => k_asm); (case k6 => k_is); (case k7 => k_is); (case k8 => first | omega | (dsimp only; omega)); (case k9 => exact BindsTo.of_eq rfl); (case c5 => decide); (case kB => exact locs rfl); (case c2 => exact rfl); (case c3 => exact rfl); (case c4 => exact rfl); k_whole)))
local macro_rules | `(tactic| walk_at "M open") => `(tactic| (rename Around => A9; rename (Around.frames _ = _) => hA9; rename (Around.handled _ = _) => hh9; revert hA9 hh9; rename (Around.depth _ + _ < _) => hd9; revert hd9; rename (Around.units _ + _ < _) => hu9; revert hu9; cases A9; dsimp only; intro hu9 hd9 hA9 hh9; subst hA9; subst hh9))
local macro_rules | `(tactic| walk_at "M noloop") => `(tactic| ((fail_if_success (with_reducible show wpAny _ _ (exec (Stmt.While _ _ _ _) _) _ _ _)); (fail_if_success (with_reducible show wpAny _ _ (exec (Stmt.For _ _ _ _ _) _) _ _ _)); (fail_if_success (with_reducible show LCg.CompSrc _ _ _ _ _ _ _ _ _ _ _ _ _ _)); (fail_if_success (with_reducible show wpAny _ _ (eval (PySem.Expr.ListComp _ _ _ _) _) _ _ _)); (fail_if_success (with_reducible show wpAny _ _ _ (fun it s₂ => PairAt3 _ _ _ _ _ _ _ _ _ _ it s₂) _ _))))
local macro_rules | `(tactic| walk_at "M go") => `(tactic| repeat' (walk_at "M noloop"; first | (k_unfold; (try dsimp only)) | (k_end; kc_close) | walk1 | (dsimp only; walk1) | (leave1; walk_say "STEP leave1"; (try dsimp only)) | fail "no step"))
local macro_rules | `(tactic| walk_at "And") => `(tactic| ((with_reducible show PySem.Str.length (_ ++ _) ≤ sizeLine ∧ wpAny _ _ (joinParts _ _) _ _ _); refine fs_and (by (simp only [len_mk, show Str.length Str.empty = 0 from rfl] at *); omega) ?_; intro zF hzF))
local macro_rules | `(tactic| walk_at "joinParts") => `(tactic| (first | (with_reducible show wpAny _ _ (joinParts _ []) _ _ _) | (with_reducible refine joinParts_nilE ?_)); refine fs_nil (by (simp only [len_mk, show Str.length Str.empty = 0 from rfl] at *); omega) ?_)
local macro_rules | `(tactic| walk_at "M enterC") => `(tactic| (refine wpAny_call ?_; k_dflt (refine' code_defC ?k1 ?k2 ?k3 ?k4 ?k5 ?kA ?kF ?kK ?k6 ?k7 ?k8 ?k9 ?kB ?kD ?_ ?c2 ?c3 ?c4; (case kA => first | assumption | exact rfl); (case kF => assumption); (case kK => assumption); (case k1 => k_asm); (case k2 => k_asm); (case k3 => k_asm); (case k4 => k_asm); (case k5 => k_asm); (case k6 => k_is); (case k7 => k_is); (case k8 => first | omega | (dsimp only; omega)); (case k9 => exact BindsTo.of_eq rfl); (case kB => exact rfl); (case kD => decide +kernel); (case c2 => exact rfl); (case c3 => exact rfl); (case c4 => exact rfl); k_whole)))
local macro_rules | `(tactic| walk_at "M next") => `(tactic| (k_here; (with_reducible show wpAny _ _ (call (Value.ref 105) [Value.ref _, Value.int _ _]) _ _ _); k_dflt (refine' next_u ?B ?F ?X ?N ?T ?hA ?hf ?hke ?hh ?hd ?hu ?hst ?hos ?U ?hsc ?m0 ?m1 ?_; (case hA => exact rfl); (case hf => exact rfl); (case hke => exact rfl); (case hh => exact rfl); (case B => k_asm); (case F => k_asm); (case X => k_asm); (case N => k_asm); (case T => k_asm); (case hst => assumption); (case hos => assumption); (case U => k_updF); (case hsc => k_mem); (case hd => ktr_room); (case hu => ktr_units); (case m0 => omega); (case m1 => omega)); intro r9 t9 o9 h9 tk9 hr0 hr1 hst9 F9 N9; (try dsimp only at N9)))
local macro_rules | `(tactic| walk_at "call ref") => `(tactic| (k_here; (with_reducible show wpAny _ _ (call (Value.ref 81) [Value.int _ _]) _ _ _); k_dflt (refine' letter_i ?B ?F ?X ?N ?T ?hA ?hf ?hke ?hh ?hd ?hu ?h0 ?h1 ?_; (case hA => exact rfl); (case hf => exact rfl); (case hke => exact rfl); (case hh => exact rfl); (case B => k_asm); (case F => k_asm); (case X => k_asm); (case N => k_asm); (case T => k_asm); (case hd => ktr_room); (case hu => ktr_units); (case h0 => omega); (case h1 => omega)); intro t9 h9 tk9 F9 N9))
theorem off1_ne {D : Addr} : ∀ {l : List (Addr × Obj)}, LCg.Off1 D l → ∀ p ∈ l, p.1 ≠ D
  | [], _, _, h => nomatch h
  | _ :: _, h, p, hp => by
    rcases List.mem_cons.mp hp with rfl | hp
    · exact h.1
    · exact off1_ne h.2 p hp
theorem interval_c {w : World} {p : Program} {loose : List Str} {mean : ExcName → Option Value} {mg mb : Str → Option Value}
    {A A₀ : Around} {env : Env} {outer : List Env} {base h₀ : Heap} {L : Addr} {m : Str → Option Value} {news : List (Addr × Obj)} {s : Shared}
    {Q E : Value → Shared → Prop} {a n : Nat} {b : Int} {t t2 : Tok}
    (B : Below A₀ base outer h₀) (F : Fr h₀ L s.heap m) (X : (Mine.hd.heap_39 w.params).In h₀)
    (N : News h₀ L s.heap news) (T : Top p loose mean mg mb h₀)
    (hA : A.frames = some (env :: outer)) (hf : env.frame = some L) (hke : env.scope.kind = .function) (hh : A.handled = none)
    (hd : A.depth + 20 < recursionLimit) (hu : A.units + 160 < cLine) (ha : 1 ≤ a) (hb : b + 1 = (a + n : Nat)) (hn : a + n ≤ 18279) (hn8 : n ≤ 8)
    (hret : ∀ D us h' tk', StrsAre us ((List.range n).map fun i => (⟨(lettersL 5 (a + i)).toArray⟩ : Str)) → Fr h₀ L h' m → News h₀ L h' ((D, listOf us.toArray us.length) :: news) → (∀ p ∈ news, p.1 ≠ D) → Q (.ref D) { s with heap := h', toks := tk' }) :
    wpAny (model PySem.Challenge.rw_ez0207_01.row.prog w) A (call (.ref 59) [.int a t, .int b t2]) Q E s := by
  obtain ⟨hnd, dp, frs, gds, un⟩ := A
  dsimp only at hA hh hd hu
  subst hA hh
  walk_at "M enter"
  intro g' L' h' FG' F' N' B' X' T'
  dsimp only
  clear hf hke B F X T N
  replace F' : Fr g' L' h' (fun y => List.lookup y [(Str.ofString "end", .int b t2), (Str.ofString "start", .int a t)]) := F'
  walk_at "M go"
  refine LCg.ListComp_U F' rfl (by decide) rfl (by decide) rfl ?_
  walk_at "M go"
  rename_i hr F1 N1 _
  refine LCg.CompSrc.range (n := n) rfl F1 N1 hr (small_one (by omega) (by omega) (by omega) (by omega)) (by rw [rangeSize_nat]; omega) (by rw [sizeLine_eq]; omega) (fun g => ?_)
  refine comp_ind (fun i ys nw => nw = news ∧ StrsAre ys ((List.range i).map fun i => (⟨(lettersL 5 (a + i)).toArray⟩ : Str))) ⟨rfl, .nil⟩ ?_ ?_
  · rintro i ys news' hi ⟨rfl, hs⟩ v I oI C oC D m₂ h tk E' ⟨tv, rfl⟩ hC hm F2 N2 off ne
    walk_at "M go"
    rename (Fr g' L' _ _) => F9
    rename (News g' L' _ _) => N9
    refine LCg.CompEnd.intro F9 N9 _ (fun _ h => h) off trivial ⟨rfl, ?_⟩
    rw [show ((a : Int) + (i : Int)).toNat = a + i by omega, List.range_succ, List.map_append]
    exact kct_snoc hs
  · rintro ys news' ⟨rfl, hs⟩
    intro D h tk F2 N2 off
    refine leaveK_ F2 N2 ?_
    intro F9 N9
    exact hret D ys _ _ hs F9 N9 (off1_ne off)
end
section
theorem off_N1 : True := by
  w_top off
  trivial
local macro_rules | `(tactic| k_all) => `(tactic| assumption)
local macro_rules | `(tactic| walk_at "M enter") => `(tactic| (refine wpAny_call ?_; k_dflt (refine' code_def ?k1 ?k2 ?k3 ?k4 ?k5 ?kA ?kF ?kK ?k6 ?k7 ?k8 ?k9 ?kB ?_ ?c2 ?c3 ?c4 ?c5; (case kA => first | assumption | exact rfl); (case kF => assumption); (case kK => assumption); (case k1 => k_asm); (case k2 => k_asm); (case k3 => k_asm); (case k4 => k_asm); (case k5 => k_asm); (case k6 => k_is); (case k7 => k_is); (case k8 => first | omega | (dsimp only; omega)); (case k9 => exact BindsTo.of_eq rfl); (case c5 => decide); (case kB => exact locs rfl); (case c2 => exact rfl); (case c3 => exact rfl); (case c4 => exact rfl); k_whole)))
local macro_rules | `(tactic| walk_at "M enterT") => `(tactic| (refine wpAny_call ?_; k_dflt (refine' code_defT ?k1 ?k2 ?k3 ?k4 ?k5 ?kA ?kF ?kK ?k6 ?k7 ?k8 ?k9 ?kB ?_ ?c2 ?c3 ?c4 ?c5; (case kA => first | assumption | exact rfl); (case kF => assumption); (case kK => assumption); (case k1 => k_asm); (case k2 => k_asm); (case k3 => k_asm); (case k4 => k_asm); (case k5 => k_asm); (case k6 => k_is); (case k7 => k_is); (case k8 => first | omega | (dsimp only; omega)); (case k9 => exact BindsTo.of_eq rfl); (case c5 => decide); (case kB => exact locs rfl); (case c2 => exact rfl); (case c3 => exact rfl); (case c4 => exact rfl); k_whole)))
local macro_rules | `(tactic| walk_at "M open") => `(tactic| (rename Around => A9; rename (Around.frames _ = _) => hA9; rename (Around.handled _ = _) => hh9; revert hA9 hh9; rename (Around.depth _ + _ < _) => hd9; revert hd9; rename (Around.units _ + _ < _) => hu9; revert hu9; cases A9; dsimp only; intro hu9 hd9 hA9 hh9; subst hA9; subst hh9))
local macro_rules | `(tactic| walk_at "M noloop") => `(tactic| ((fail_if_success (with_reducible show wpAny _ _ (exec (Stmt.While _ _ _ _) _) _ _ _)); (fail_if_success (with_reducible show wpAny _ _ (exec (Stmt.For _ _ _ _ _) _) _ _ _)); (fail_if_success (with_reducible show LCg.CompSrc _ _ _ _ _ _ _ _ _ _ _ _ _ _)); (fail_if_success (with_reducible show wpAny _ _ (eval (PySem.Expr.ListComp _ _ _ _) _) _ _ _)); (fail_if_success (with_reducible show wpAny _ _ _ (fun it s₂ => PairAt3 _ _ _ _ _ _ _ _ _ _ it s₂) _ _))))
local macro_rules | `(tactic| walk_at "M go") => `(tactic| repeat' (walk_at "M noloop"; first | (k_unfold; (try dsimp only)) | (k_end; kc_close) | walk1 | (dsimp only; walk1) | (leave1; walk_say "STEP leave1"; (try dsimp only)) | fail "no step"))
local macro_rules | `(tactic| walk_at "And") => `(tactic| ((with_reducible show PySem.Str.length (_ ++ _) ≤ sizeLine ∧ wpAny _ _ (joinParts _ _) _ _ _); refine fs_and (by (simp only [len_mk, show Str.length Str.empty = 0 from rfl] at *); omega) ?_; intro zF hzF))
local macro_rules | `(tactic| walk_at "joinParts") => `(tactic| (first | (with_reducible show wpAny _ _ (joinParts _ []) _ _ _) | (with_reducible refine joinParts_nilE ?_)); refine fs_nil (by (simp only [len_mk, show Str.length Str.empty = 0 from rfl] at *); omega) ?_)
local macro_rules | `(tactic| walk_at "M enterC") => `(tactic| (refine wpAny_call ?_; k_dflt (refine' code_defC ?k1 ?k2 ?k3 ?k4 ?k5 ?kA ?kF ?kK ?k6 ?k7 ?k8 ?k9 ?kB ?kD ?_ ?c2 ?c3 ?c4; (case kA => first | assumption | exact rfl); (case kF => assumption); (case kK => assumption); (case k1 => k_asm); (case k2 => k_asm); (case k3 => k_asm); (case k4 => k_asm); (case k5 => k_asm); (case k6 => k_is); (case k7 => k_is); (case k8 => first | omega | (dsimp only; omega)); (case k9 => exact BindsTo.of_eq rfl); (case kB => exact rfl); (case kD => decide +kernel); (case c2 => exact rfl); (case c3 => exact rfl); (case c4 => exact rfl); k_whole)))
local macro_rules | `(tactic| walk_at "M next") => `(tactic| (k_here; (with_reducible show wpAny _ _ (call (Value.ref 105) [Value.ref _, Value.int _ _]) _ _ _); k_dflt (refine' next_u ?B ?F ?X ?N ?T ?hA ?hf ?hke ?hh ?hd ?hu ?hst ?hos ?U ?hsc ?m0 ?m1 ?_; (case hA => exact rfl); (case hf => exact rfl); (case hke => exact rfl); (case hh => exact rfl); (case B => k_asm); (case F => k_asm); (case X => k_asm); (case N => k_asm); (case T => k_asm); (case hst => assumption); (case hos => assumption); (case U => k_updF); (case hsc => k_mem); (case hd => ktr_room); (case hu => ktr_units); (case m0 => omega); (case m1 => omega)); intro r9 t9 o9 h9 tk9 hr0 hr1 hst9 F9 N9; (try dsimp only at N9)))
theorem next_c {w : World} {p : Program} {loose : List Str} {mean : ExcName → Option Value} {mg mb : Str → Option Value}
    {A A₀ : Around} {env : Env} {outer : List Env} {base h₀ : Heap} {L : Addr} {m : Str → Option Value} {rest : List (Addr × Obj)} {s : Shared}
    {Q E : Value → Shared → Prop} {st sc : Addr} {vs : List Value} {ns : List Int} {pos seed many : Int} {t1 t2 t3 : Tok} {c c2 : Nat}
    (B : Below A₀ base outer h₀) (F : Fr h₀ L s.heap m) (X : (Mine.hd.heap_39 w.params).In h₀)
    (N : News h₀ L s.heap ((st, listOf #[.ref sc, .int pos t1, .int seed t2] c) :: (sc, listOf vs.toArray c2) :: rest)) (T : Top p loose mean mg mb h₀)
    (hA : A.frames = some (env :: outer)) (hf : env.frame = some L) (hke : env.scope.kind = .function) (hh : A.handled = none)
    (hd : A.depth + 10 < recursionLimit) (hu : A.units + 80 < cLine)
    (hrest : ∀ p ∈ rest, p.1 ≠ st) (hsc : sc ≠ st) (hI : IntsAre vs ns) (hlen : ns.length ≤ 40)
    (hp0 : 0 ≤ pos) (hp1 : pos ≤ 100) (hs0 : 0 ≤ seed) (hs1 : seed < 2147483647) (hm0 : 0 < many) (hm1 : many < 100000)
    (hret : ∀ r pos' seed' t t1' t2' c' h' tk', 0 ≤ r → r < many → 0 ≤ pos' → pos' ≤ 100 → 0 ≤ seed' → seed' < 2147483647 → Fr h₀ L h' m → News h₀ L h' ((st, listOf #[.ref sc, .int pos' t1', .int seed' t2'] c') :: (sc, listOf vs.toArray c2) :: rest) →
      Q (.int r t) { s with heap := h', toks := tk' }) :
    wpAny (model PySem.Challenge.rw_ez0207_01.row.prog w) A (call (.ref 105) [.ref st, .int many t3]) Q E s := by
  refine wpAny_call ?_
  k_dflt (refine' code_def ?k1 ?k2 ?k3 ?k4 ?k5 ?kA ?kF ?kK ?k6 ?k7 ?k8 ?k9 ?kB ?_ ?c2 ?c3 ?c4 ?c5; (case kA => exact hA); (case kF => exact hf); (case kK => exact hke); (case k1 => k_asm); (case k2 => k_asm); (case k3 => k_asm); (case k4 => k_asm); (case k5 => k_asm); (case k6 => k_is); (case k7 => k_is); (case k8 => omega); (case k9 => exact BindsTo.of_eq rfl); (case c5 => decide); (case kB => exact locs rfl); (case c2 => exact rfl); (case c3 => exact rfl); (case c4 => exact rfl); k_whole; intro g' L' h' FG' F' N' B' X' T'; (try dsimp only); (try k_fold))
  clear hA hf hke B F X T
  k_steps
  · refine leaveK_ (by assumption) (by assumption) ?_
    intro F9 N9
    refine hret _ _ _ _ _ _ _ _ _ ?_ ?_ ?_ ?_ ?_ ?_ F9 N9
    · exact fmod_lo _ hm0
    · exact fmod_hi _ hm0
    · omega
    · omega
    · exact fmod_lo _ (by omega)
    · exact fmod_hi _ (by omega)
  · refine leaveK_ (by assumption) (by assumption) ?_
    intro F9 N9
    refine hret _ _ _ _ _ _ _ _ _ ?_ ?_ ?_ ?_ ?_ ?_ F9 N9
    · exact fmod_lo _ hm0
    · exact fmod_hi _ hm0
    · omega
    · omega
    · exact fmod_lo _ (by omega)
    · exact fmod_hi _ (by omega)

theorem next_u {w : World} {p : Program} {loose : List Str} {mean : ExcName → Option Value} {mg mb : Str → Option Value}
    {A A₀ : Around} {env : Env} {outer : List Env} {base h₀ : Heap} {L : Addr} {m : Str → Option Value} {news : List (Addr × Obj)} {g : Obj → List (Addr × Obj)} {s : Shared}
    {Q E : Value → Shared → Prop} {st sc : Addr} {o os : Obj} {many : Int} {t3 : Tok}
    (B : Below A₀ base outer h₀) (F : Fr h₀ L s.heap m) (X : (Mine.hd.heap_39 w.params).In h₀)
    (N : News h₀ L s.heap news) (T : Top p loose mean mg mb h₀)
    (hA : A.frames = some (env :: outer)) (hf : env.frame = some L) (hke : env.scope.kind = .function) (hh : A.handled = none)
    (hd : A.depth + 10 < recursionLimit) (hu : A.units + 80 < cLine)
    (hst : LawSt sc o) (hos : ScrOk os) (U : UpdF st o news g) (hsc : (sc, os) ∈ news) (hm0 : 0 < many) (hm1 : many < 100000)
    (hret : ∀ r t o' h' tk', 0 ≤ r → r < many → LawSt sc o' → Fr h₀ L h' m → News h₀ L h' (g o') → Q (.int r t) { s with heap := h', toks := tk' }) :
    wpAny (model PySem.Challenge.rw_ez0207_01.row.prog w) A (call (.ref 105) [.ref st, .int many t3]) Q E s := by
  obtain ⟨pos, seed, t1, t2, c, rfl, hp0, hp1, hs0, hs1⟩ := hst
  obtain ⟨vs, ns, c2, rfl, hI, hl⟩ := hos
  obtain ⟨pre, post, rfl, hg, h1, h2⟩ := U.split
  have hne : sc ≠ st := by
    rcases List.mem_append.mp hsc with h | h
    · exact h1 _ h
    · rcases List.mem_cons.mp h with h | h
      · injection h with ha hb
        exfalso
        injection hb with _ _ hb _
        injection hb with hb _
        have : vs = [.ref sc, .int pos t1, .int seed t2] := by simpa using congrArg Array.toList hb
        rw [this] at hI
        cases hI
      · exact h2 _ h
  refine next_c (rest := pre ++ post) (st := st) (sc := sc) (vs := vs) (ns := ns) (c := c) (c2 := c2) (t1 := t1) (t2 := t2) B F X ?_ T hA hf hke hh hd hu ?_ hne hI hl hp0 hp1 hs0 hs1 hm0 hm1 ?_
  · intro p hp
    rcases List.mem_cons.mp hp with rfl | hp
    · exact N _ (List.mem_append_right _ (.head _))
    rcases List.mem_cons.mp hp with rfl | hp
    · exact N _ hsc
    rcases List.mem_append.mp hp with hp | hp
    · exact N _ (List.mem_append_left _ hp)
    · exact N _ (List.mem_append_right _ (.tail _ hp))
  · intro p hp
    rcases List.mem_append.mp hp with hp | hp
    · exact h1 _ hp
    · exact h2 _ hp
  · intro r pos' seed' t t1' t2' c' h' tk' r0 r1 p0 p1 s0 s1 F' N'
    refine hret r t _ h' tk' r0 r1 ⟨pos', seed', t1', t2', c', rfl, p0, p1, s0, s1⟩ F' ?_
    rw [hg]
    intro p hp
    rcases List.mem_append.mp hp with hp | hp
    · exact N' _ (.tail _ (.tail _ (List.mem_append_left _ hp)))
    rcases List.mem_cons.mp hp with rfl | hp
    · exact N' _ (.head _)
    · exact N' _ (.tail _ (.tail _ (List.mem_append_right _ hp)))
end
section
theorem off_N3 : True := by
  w_top off
  trivial
local macro_rules | `(tactic| walk_at "M none") => `(tactic| fail "none")
local macro_rules | `(tactic| walk_at "M none") => `(tactic| fail "none")
local macro_rules | `(tactic| walk_at "M none") => `(tactic| fail "none")
local macro_rules | `(tactic| walk_at "M none") => `(tactic| fail "none")
local macro_rules | `(tactic| walk_at "M none") => `(tactic| fail "none")
local macro_rules | `(tactic| walk_at "M none") => `(tactic| fail "none")
local macro_rules | `(tactic| walk_at "M none") => `(tactic| fail "none")
local macro_rules | `(tactic| walk_at "M none") => `(tactic| fail "none")
local macro_rules | `(tactic| walk_at "M none") => `(tactic| fail "none")
local macro_rules | `(tactic| walk_at "M none") => `(tactic| fail "none")
local macro_rules | `(tactic| walk_at "M none") => `(tactic| fail "none")
local macro_rules | `(tactic| walk_at "M none") => `(tactic| fail "none")
local macro_rules | `(tactic| walk_at "M none") => `(tactic| fail "none")
local macro_rules | `(tactic| walk_at "M none") => `(tactic| fail "none")
local macro_rules | `(tactic| walk_at "M none") => `(tactic| fail "none")
local macro_rules | `(tactic| walk_at "M none") => `(tactic| fail "none")
local macro_rules | `(tactic| walk_at "M none") => `(tactic| fail "none")
local macro_rules | `(tactic| walk_at "M none") => `(tactic| fail "none")
local macro_rules | `(tactic| walk_at "M none") => `(tactic| fail "none")
local macro_rules | `(tactic| walk_at "M none") => `(tactic| fail "none")
local macro_rules | `(tactic| walk_at "M none") => `(tactic| fail "none")
local macro_rules | `(tactic| walk_at "M none") => `(tactic| fail "none")
local macro_rules | `(tactic| walk_at "M none") => `(tactic| fail "none")
local macro_rules | `(tactic| walk_at "M none") => `(tactic| fail "none")
local macro_rules | `(tactic| walk_at "M none") => `(tactic| fail "none")
local macro_rules | `(tactic| walk_at "M none") => `(tactic| fail "none")
local macro_rules | `(tactic| walk_at "M none") => `(tactic| fail "none")
local macro_rules | `(tactic| walk_at "M none") => `(tactic| fail "none")
local macro_rules | `(tactic| walk_at "M none") => `(tactic| fail "none")
local macro_rules | `(tactic| walk_at "M none") => `(tactic| fail "none")
local macro_rules | `(tactic| k_all) => `(tactic| assumption)
local macro_rules | `(tactic| walk_at "M enter") => `(tactic| (refine wpAny_call ?_; k_dflt (refine' code_def ?k1 ?k2 ?k3 ?k4 ?k5 ?kA ?kF ?kK ?k6 ?k7 ?k8 ?k9 ?kB ?_ ?c2 ?c3 ?c4 ?c5; (case kA => first | assumption | exact rfl); (case kF => assumption); (case kK => assumption); (case k1 => k_asm); (case k2 => k_asm); (case k3 => k_asm); (case k4 => k_asm); (case k5 => k_asm); (case k6 => k_is); (case k7 => k_is); (case k8 => first | omega | (dsimp only; omega)); (case k9 => exact BindsTo.of_eq rfl); (case c5 => decide); (case kB => exact locs rfl); (case c2 => exact rfl); (case c3 => exact rfl); (case c4 => exact rfl); k_whole)))
local macro_rules | `(tactic| walk_at "M enterT") => `(tactic| (refine wpAny_call ?_; k_dflt (refine' code_defT ?k1 ?k2 ?k3 ?k4 ?k5 ?kA ?kF ?kK ?k6 ?k7 ?k8 ?k9 ?kB ?_ ?c2 ?c3 ?c4 ?c5; (case kA => first | assumption | exact rfl); (case kF => assumption); (case kK => assumption); (case k1 => k_asm); (case k2 => k_asm); (case k3 => k_asm); (case k4 => k_asm); (case k5 => k_asm); (case k6 => k_is); (case k7 => k_is); (case k8 => first | omega | (dsimp only; omega)); (case k9 => exact BindsTo.of_eq rfl); (case c5 => decide); (case kB => exact locs rfl); (case c2 => exact rfl); (case c3 => exact rfl); (case c4 => exact rfl); k_whole)))
local macro_rules | `(tactic| walk_at "M open") => `(tactic| (rename Around => A9; rename (Around.frames _ = _) => hA9; rename (Around.handled _ = _) => hh9; revert hA9 hh9; rename (Around.depth _ + _ < _) => hd9; revert hd9; rename (Around.units _ + _ < _) => hu9; revert hu9; cases A9; dsimp only; intro hu9 hd9 hA9 hh9; subst hA9; subst hh9))
local macro_rules | `(tactic| walk_at "M noloop") => `(tactic| ((fail_if_success (with_reducible show wpAny _ _ (exec (Stmt.While _ _ _ _) _) _ _ _)); (fail_if_success (with_reducible show wpAny _ _ (exec (Stmt.For _ _ _ _ _) _) _ _ _)); (fail_if_success (with_reducible show LCg.CompSrc _ _ _ _ _ _ _ _ _ _ _ _ _ _)); (fail_if_success (with_reducible show wpAny _ _ (eval (PySem.Expr.ListComp _ _ _ _) _) _ _ _)); (fail_if_success (with_reducible show wpAny _ _ _ (fun it s₂ => PairAt3 _ _ _ _ _ _ _ _ _ _ it s₂) _ _))))
local macro_rules | `(tactic| walk_at "M go") => `(tactic| repeat' (walk_at "M noloop"; first | (k_unfold; (try dsimp only)) | (k_end; kc_close) | walk1 | (dsimp only; walk1) | (leave1; walk_say "STEP leave1"; (try dsimp only)) | fail "no step"))
local macro_rules | `(tactic| walk_at "And") => `(tactic| ((with_reducible show PySem.Str.length (_ ++ _) ≤ sizeLine ∧ wpAny _ _ (joinParts _ _) _ _ _); refine fs_and (by (simp only [len_mk, show Str.length Str.empty = 0 from rfl] at *); omega) ?_; intro zF hzF))
local macro_rules | `(tactic| walk_at "joinParts") => `(tactic| (first | (with_reducible show wpAny _ _ (joinParts _ []) _ _ _) | (with_reducible refine joinParts_nilE ?_)); refine fs_nil (by (simp only [len_mk, show Str.length Str.empty = 0 from rfl] at *); omega) ?_)
local macro_rules | `(tactic| walk_at "M enterC") => `(tactic| (refine wpAny_call ?_; k_dflt (refine' code_defC ?k1 ?k2 ?k3 ?k4 ?k5 ?kA ?kF ?kK ?k6 ?k7 ?k8 ?k9 ?kB ?kD ?_ ?c2 ?c3 ?c4; (case kA => first | assumption | exact rfl); (case kF => assumption); (case kK => assumption); (case k1 => k_asm); (case k2 => k_asm); (case k3 => k_asm); (case k4 => k_asm); (case k5 => k_asm); (case k6 => k_is); (case k7 => k_is); (case k8 => first | omega | (dsimp only; omega)); (case k9 => exact BindsTo.of_eq rfl); (case kB => exact rfl); (case kD => decide +kernel); (case c2 => exact rfl); (case c3 => exact rfl); (case c4 => exact rfl); k_whole)))
local macro_rules | `(tactic| walk_at "M next") => `(tactic| (k_here; (with_reducible show wpAny _ _ (call (Value.ref 105) [Value.ref _, Value.int _ _]) _ _ _); k_dflt (refine' next_u ?B ?F ?X ?N ?T ?hA ?hf ?hke ?hh ?hd ?hu ?hst ?hos ?U ?hsc ?m0 ?m1 ?_; (case hA => exact rfl); (case hf => exact rfl); (case hke => exact rfl); (case hh => exact rfl); (case B => k_asm); (case F => k_asm); (case X => k_asm); (case N => k_asm); (case T => k_asm); (case hst => assumption); (case hos => assumption); (case U => k_updF); (case hsc => k_mem); (case hd => ktr_room); (case hu => ktr_units); (case m0 => omega); (case m1 => omega)); intro r9 t9 o9 h9 tk9 hr0 hr1 hst9 F9 N9; (try dsimp only at N9)))
def numFold : Nat → List Nat → Option Nat
  | acc, [] => some acc
  | acc, c :: r => if 65 ≤ c ∧ c ≤ 90 then numFold (26 * acc + (c - 64)) r else none
def numV (ux : List Nat) (len : Nat) : Option Int := match numFold 0 ux with
  | none => none
  | some v => if 0 < len ∧ len < 4 then some (v : Int) else none
theorem az_list : (Str.ofString "ABCDEFGHIJKLMNOPQRSTUVWXYZ").cps.toList = (List.range 26).map (65 + ·) := by decide +kernel
theorem az_in (c : Nat) : (Builtin.Str.occurrences (Str.ofString "ABCDEFGHIJKLMNOPQRSTUVWXYZ") ⟨#[c]⟩ 0 (Str.ofString "ABCDEFGHIJKLMNOPQRSTUVWXYZ").length 1).isEmpty = !(decide (65 ≤ c ∧ c ≤ 90)) := by
  have h := StrLaws.found_one (Str.ofString "ABCDEFGHIJKLMNOPQRSTUVWXYZ") c
  rw [az_list] at h
  have e : decide (c ∈ (List.range 26).map (65 + ·)) = decide (65 ≤ c ∧ c ≤ 90) := by
    apply decide_eq_decide.mpr
    simp only [List.mem_map, List.mem_range]
    constructor
    · rintro ⟨a, ha, rfl⟩; omega
    · rintro ⟨h1, h2⟩; exact ⟨c - 65, by omega, by omega⟩
  rw [e] at h
  rw [← h, Bool.not_not]
theorem az_at : ∀ r : Nat, r < 26 → Builtin.Str.occurrences (Str.ofString "ABCDEFGHIJKLMNOPQRSTUVWXYZ") ⟨#[65 + r]⟩ 0 (Str.ofString "ABCDEFGHIJKLMNOPQRSTUVWXYZ").length 1 = [r] := by decide +kernel
theorem number_c {w : World} {p : Program} {loose : List Str} {mean : ExcName → Option Value} {mg mb : Str → Option Value}
    {A A₀ : Around} {env : Env} {outer : List Env} {base h₀ : Heap} {L : Addr} {m : Str → Option Value} {news : List (Addr × Obj)} {s : Shared}
    {Q E : Value → Shared → Prop} {x ux : List Nat} {t : Tok}
    (B : Below A₀ base outer h₀) (F : Fr h₀ L s.heap m) (X : (Mine.hd.heap_39 w.params).In h₀)
    (N : News h₀ L s.heap news) (T : Top p loose mean mg mb h₀)
    (hA : A.frames = some (env :: outer)) (hf : env.frame = some L) (hke : env.scope.kind = .function) (hh : A.handled = none)
    (hd : A.depth + 10 < recursionLimit) (hu : A.units + 80 < cLine) (hx : x.length ≤ 4) (hux : Txt.upper ⟨x.toArray⟩ = ⟨ux.toArray⟩) (hul : ux.length ≤ 4)
    (hret : ∀ v h' tk', OptInt (numV ux x.length) v → Fr h₀ L h' m → News h₀ L h' news → Q v { s with heap := h', toks := tk' }) :
    wpAny (model PySem.Challenge.rw_ez0207_01.row.prog w) A (call (.ref 119) [.str ⟨x.toArray⟩ t]) Q E s := by
  have hxl : Str.length ⟨x.toArray⟩ ≤ 4 := by rw [len_mk]; exact hx
  walk_at "M enter"
  intro g' L' h' FG' F' N' B' X' T'
  dsimp only
  clear hA hf hke B F X T N
  replace F' : Fr g' L' h' (fun y => List.lookup y [(Str.ofString "text", .str ⟨x.toArray⟩ t)]) := F'
  walk_at "M go"
  rename_i hh1 F1 N1
  obtain ⟨t1, F2⟩ : ∃ t1, Fr g' L' hh1 (fun y => if y = Str.ofString "sign" then none else List.lookup y [(Str.ofString "text", .str ⟨x.toArray⟩ t), (Str.ofString "number", .int 0 t1)]) :=
    ⟨_, Fr.cg (Fr.cg F1 (putE fun _ => rfl)) (look_hole rfl)⟩
  clear F1
  refine For_invVF F2 rfl rfl ?_
  walk_at "M go"
  rw [hux]
  refine iter_text (fun i m₁ news₁ => news₁ = news ∧ ∃ acc u tn, numFold acc (ux.drop i) = numFold 0 ux ∧ acc < 27 ^ (i + 1) ∧ m₁ = (fun y => if y = Str.ofString "sign" then u else List.lookup y [(Str.ofString "text", .str ⟨x.toArray⟩ t), (Str.ofString "number", .int (acc : Nat) tn)])) hh F2 N1 ⟨rfl, 0, none, t1, (by simp), (by simp), rfl⟩ ?_ ?_
  · rintro i c tc m₁ news₁ h₁ tk₁ own hc hadr hoff ⟨rfl, acc, u, tn, he, hb, rfl⟩ F₁ N₁
    replace F₁ := Fr.cg F₁ if_if
    have hi : i < ux.length := by
      have := (Array.getElem?_eq_some_iff.mp hc).1
      simpa using this
    have hc' : ux[i]? = some c := by simpa using hc
    have hdrop : ux.drop i = c :: ux.drop (i + 1) := by
      rw [List.drop_eq_getElem_cons hi]
      congr 1
      exact Option.some.inj ((List.getElem?_eq_getElem hi).symm.trans hc')
    walk_at "M go"
    · rename (_ = true) => hz
      rw [az_in] at hz
      have hz' : ¬ (65 ≤ c ∧ c ≤ 90) := by simp at hz; omega
      refine leaveK_ F₁ N₁ ?_
      intro F9 N9
      refine hret _ _ _ ?_ F9 (fun p hp => N9 p (List.mem_append_left _ hp))
      have : numFold 0 ux = none := by rw [← he, hdrop, numFold, if_neg hz']
      simp [OptInt, numV, this]
    · rename (_ = false) => hz
      rw [az_in] at hz
      have hz' : 65 ≤ c ∧ c ≤ 90 := by simpa using hz
      obtain ⟨r, hr, rfl⟩ : ∃ r, r < 26 ∧ c = 65 + r := ⟨c - 65, by omega, by omega⟩
      refine SC.index (az_at r hr) ?_
      walk_at "M go"
      rename (Fr _ _ _ fun y => if y = Str.ofString "number" then _ else _) => Fz
      obtain ⟨ta, Fy⟩ : ∃ ta, Fr g' L' _ (fun y => if y = Str.ofString "sign" then some (.str ⟨#[65 + r]⟩ tc) else List.lookup y [(Str.ofString "text", .str ⟨x.toArray⟩ t), (Str.ofString "number", .int ((26 * acc + r + 1 : Nat) : Int) ta)]) := ⟨_, Fr.cg Fz (putU (by decide) fun _ => rfl)⟩
      refine InvEndN.intro Fy (by assumption) ⟨rfl, 26 * acc + r + 1, _, ta, ?_, ?_, rfl⟩ rfl (fun p hp => List.mem_append_left _ hp) (fun p hp => List.mem_append_right _ hp)
      · rw [← he, hdrop, numFold, if_pos hz']
        congr 1
        omega
      · rw [Nat.pow_succ]; omega
  · rintro m₁ news₁ h₁ tk₁ ⟨rfl, acc, u, tn, he, hb, rfl⟩ F₁ N₁
    rw [show (⟨ux.toArray⟩ : Str).cps.size = ux.length by simp, List.drop_length] at he
    have he' : numFold 0 ux = some acc := by rw [← he, numFold]
    clear F2 N1
    walk_at "M go"
    all_goals (refine leaveK_ F₁ N₁ ?_; intro F9 N9; refine hret _ _ _ ?_ F9 N9; simp only [len_mk] at *; simp only [OptInt, numV, he'])
    · rw [if_pos (by omega)]; exact ⟨_, rfl⟩
    · rw [if_neg (by omega)]; simp
    · rw [if_neg (by omega)]; simp
end
section
theorem off_N7 : True := by
  w_top off
  trivial
local macro_rules | `(tactic| walk_at "M none") => `(tactic| fail "none")
local macro_rules | `(tactic| walk_at "M none") => `(tactic| fail "none")
local macro_rules | `(tactic| walk_at "M none") => `(tactic| fail "none")
local macro_rules | `(tactic| walk_at "M none") => `(tactic| fail "none")
local macro_rules | `(tactic| walk_at "M none") => `(tactic| fail "none")
local macro_rules | `(tactic| walk_at "M none") => `(tactic| fail "none")
local macro_rules | `(tactic| walk_at "M none") => `(tactic| fail "none")
local macro_rules | `(tactic| walk_at "M none") => `(tactic| fail "none")
local macro_rules | `(tactic| walk_at "M none") => `(tactic| fail "none")
local macro_rules | `(tactic| walk_at "M none") => `(tactic| fail "none")
local macro_rules | `(tactic| walk_at "M none") => `(tactic| fail "none")
local macro_rules | `(tactic| walk_at "M none") => `(tactic| fail "none")
local macro_rules | `(tactic| walk_at "M none") => `(tactic| fail "none")
local macro_rules | `(tactic| walk_at "M none") => `(tactic| fail "none")
local macro_rules | `(tactic| walk_at "M none") => `(tactic| fail "none")
local macro_rules | `(tactic| walk_at "M none") => `(tactic| fail "none")
local macro_rules | `(tactic| walk_at "M none") => `(tactic| fail "none")
local macro_rules | `(tactic| walk_at "M none") => `(tactic| fail "none")
local macro_rules | `(tactic| walk_at "M none") => `(tactic| fail "none")
local macro_rules | `(tactic| walk_at "M none") => `(tactic| fail "none")
local macro_rules | `(tactic| walk_at "M none") => `(tactic| fail "none")
local macro_rules | `(tactic| walk_at "M none") => `(tactic| fail "none")
local macro_rules | `(tactic| walk_at "M none") => `(tactic| fail "none")
local macro_rules | `(tactic| walk_at "M none") => `(tactic| fail "none")
local macro_rules | `(tactic| walk_at "M none") => `(tactic| fail "none")
local macro_rules | `(tactic| walk_at "M none") => `(tactic| fail "none")
local macro_rules | `(tactic| walk_at "M none") => `(tactic| fail "none")
local macro_rules | `(tactic| walk_at "M none") => `(tactic| fail "none")
local macro_rules | `(tactic| walk_at "M none") => `(tactic| fail "none")
local macro_rules | `(tactic| walk_at "M none") => `(tactic| fail "none")
local macro_rules | `(tactic| walk_at "M none") => `(tactic| fail "none")
local macro_rules | `(tactic| walk_at "M none") => `(tactic| fail "none")
local macro_rules | `(tactic| walk_at "M none") => `(tactic| fail "none")
local macro_rules | `(tactic| walk_at "M none") => `(tactic| fail "none")
local macro_rules | `(tactic| walk_at "M none") => `(tactic| fail "none")
local macro_rules | `(tactic| walk_at "M none") => `(tactic| fail "none")
local macro_rules | `(tactic| walk_at "M none") => `(tactic| fail "none")
local macro_rules | `(tactic| walk_at "M none") => `(tactic| fail "none")
local macro_rules | `(tactic| walk_at "M none") => `(tactic| fail "none")
local macro_rules | `(tactic| walk_at "M none") => `(tactic| fail "none")
local macro_rules | `(tactic| walk_at "M none") => `(tactic| fail "none")
local macro_rules | `(tactic| walk_at "M none") => `(tactic| fail "none")
local macro_rules | `(tactic| walk_at "M none") => `(tactic| fail "none")
local macro_rules | `(tactic| walk_at "M none") => `(tactic| fail "none")
local macro_rules | `(tactic| walk_at "M none") => `(tactic| fail "none")
local macro_rules | `(tactic| walk_at "M none") => `(tactic| fail "none")
local macro_rules | `(tactic| walk_at "M none") => `(tactic| fail "none")
local macro_rules | `(tactic| walk_at "M none") => `(tactic| fail "none")
local macro_rules | `(tactic| walk_at "M none") => `(tactic| fail "none")
local macro_rules | `(tactic| walk_at "M none") => `(tactic| fail "none")
local macro_rules | `(tactic| walk_at "M none") => `(tactic| fail "none")
local macro_rules | `(tactic| walk_at "M none") => `(tactic| fail "none")
local macro_rules | `(tactic| walk_at "M none") => `(tactic| fail "none")
local macro_rules | `(tactic| walk_at "M none") => `(tactic| fail "none")
local macro_rules | `(tactic| walk_at "M none") => `(tactic| fail "none")
local macro_rules | `(tactic| walk_at "M none") => `(tactic| fail "none")
local macro_rules | `(tactic| walk_at "M none") => `(tactic| fail "none")
local macro_rules | `(tactic| walk_at "M none") => `(tactic| fail "none")
local macro_rules | `(tactic| walk_at "M none") => `(tactic| fail "none")
local macro_rules | `(tactic| walk_at "M none") => `(tactic| fail "none")
local macro_rules | `(tactic| k_all) => `(tactic| assumption)
local macro_rules | `(tactic| walk_at "M enter") => `(tactic| (refine wpAny_call ?_; k_dflt (refine' code_def ?k1 ?k2 ?k3 ?k4 ?k5 ?kA ?kF ?kK ?k6 ?k7 ?k8 ?k9 ?kB ?_ ?c2 ?c3 ?c4 ?c5; (case kA => first | assumption | exact rfl); (case kF => assumption); (case kK => assumption); (case k1 => k_asm); (case k2 => k_asm); (case k3 => k_asm); (case k4 => k_asm); (case k5 => k_asm); (case k6 => k_is); (case k7 => k_is); (case k8 => first | omega | (dsimp only; omega)); (case k9 => exact BindsTo.of_eq rfl); (case c5 => decide); (case kB => exact locs rfl); (case c2 => exact rfl); (case c3 => exact rfl); (case c4 => exact rfl); k_whole)))
local macro_rules | `(tactic| walk_at "M enterT") => `(tactic| (refine wpAny_call ?_; k_dflt (refine' code_defT ?k1 ?k2 ?k3 ?k4 ?k5 ?kA ?kF ?kK ?k6 ?k7 ?k8 ?k9 ?kB ?_ ?c2 ?c3 ?c4 ?c5; (case kA => first | assumption | exact rfl); (case kF => assumption); (case kK => assumption); (case k1 => k_asm); (case k2 => k_asm); (case k3 => k_asm); (case k4 => k_asm); (case k5 => k_asm); (case k6 => k_is); (case k7 => k_is); (case k8 => first | omega | (dsimp only; omega)); (case k9 => exact BindsTo.of_eq rfl); (case c5 => decide); (case kB => exact locs rfl); (case c2 => exact rfl); (case c3 => exact rfl); (case c4 => exact rfl); k_whole)))
local macro_rules | `(tactic| walk_at "M open") => `(tactic| (rename Around => A9; rename (Around.frames _ = _) => hA9; rename (Around.handled _ = _) => hh9; revert hA9 hh9; rename (Around.depth _ + _ < _) => hd9; revert hd9; rename (Around.units _ + _ < _) => hu9; revert hu9; cases A9; dsimp only; intro hu9 hd9 hA9 hh9; subst hA9; subst hh9))
local macro_rules | `(tactic| walk_at "M noloop") => `(tactic| ((fail_if_success (with_reducible show wpAny _ _ (exec (Stmt.While _ _ _ _) _) _ _ _)); (fail_if_success (with_reducible show wpAny _ _ (exec (Stmt.For _ _ _ _ _) _) _ _ _)); (fail_if_success (with_reducible show LCg.CompSrc _ _ _ _ _ _ _ _ _ _ _ _ _ _)); (fail_if_success (with_reducible show wpAny _ _ (eval (PySem.Expr.ListComp _ _ _ _) _) _ _ _)); (fail_if_success (with_reducible show wpAny _ _ _ (fun it s₂ => PairAt3 _ _ _ _ _ _ _ _ _ _ it s₂) _ _))))
local macro_rules | `(tactic| walk_at "M go") => `(tactic| repeat' (walk_at "M noloop"; first | (k_unfold; (try dsimp only)) | (k_end; kc_close) | walk1 | (dsimp only; walk1) | (leave1; walk_say "STEP leave1"; (try dsimp only)) | fail "no step"))
local macro_rules | `(tactic| walk_at "And") => `(tactic| ((with_reducible show PySem.Str.length (_ ++ _) ≤ sizeLine ∧ wpAny _ _ (joinParts _ _) _ _ _); refine fs_and (by (simp only [len_mk, show Str.length Str.empty = 0 from rfl] at *); omega) ?_; intro zF hzF))
local macro_rules | `(tactic| walk_at "joinParts") => `(tactic| (first | (with_reducible show wpAny _ _ (joinParts _ []) _ _ _) | (with_reducible refine joinParts_nilE ?_)); refine fs_nil (by (simp only [len_mk, show Str.length Str.empty = 0 from rfl] at *); omega) ?_)
local macro_rules | `(tactic| walk_at "M enterC") => `(tactic| (refine wpAny_call ?_; k_dflt (refine' code_defC ?k1 ?k2 ?k3 ?k4 ?k5 ?kA ?kF ?kK ?k6 ?k7 ?k8 ?k9 ?kB ?kD ?_ ?c2 ?c3 ?c4; (case kA => first | assumption | exact rfl); (case kF => assumption); (case kK => assumption); (case k1 => k_asm); (case k2 => k_asm); (case k3 => k_asm); (case k4 => k_asm); (case k5 => k_asm); (case k6 => k_is); (case k7 => k_is); (case k8 => first | omega | (dsimp only; omega)); (case k9 => exact BindsTo.of_eq rfl); (case kB => exact rfl); (case kD => decide +kernel); (case c2 => exact rfl); (case c3 => exact rfl); (case c4 => exact rfl); k_whole)))
local macro_rules | `(tactic| walk_at "M next") => `(tactic| (k_here; (with_reducible show wpAny _ _ (call (Value.ref 105) [Value.ref _, Value.int _ _]) _ _ _); k_dflt (refine' next_u ?B ?F ?X ?N ?T ?hA ?hf ?hke ?hh ?hd ?hu ?hst ?hos ?U ?hsc ?m0 ?m1 ?_; (case hA => exact rfl); (case hf => exact rfl); (case hke => exact rfl); (case hh => exact rfl); (case B => k_asm); (case F => k_asm); (case X => k_asm); (case N => k_asm); (case T => k_asm); (case hst => assumption); (case hos => assumption); (case U => k_updF); (case hsc => k_mem); (case hd => ktr_room); (case hu => ktr_units); (case m0 => omega); (case m1 => omega)); intro r9 t9 o9 h9 tk9 hr0 hr1 hst9 F9 N9; (try dsimp only at N9)))
local macro_rules | `(tactic| walk_at "call ref") => `(tactic| walk_at "M next")
theorem lower_one : ∀ r : Nat, r < 26 → Txt.lower ⟨#[65 + r]⟩ = (⟨#[65 + r + 32]⟩ : Str) := by decide +kernel
theorem mixed_c {w : World} {p : Program} {loose : List Str} {mean : ExcName → Option Value} {mg mb : Str → Option Value}
    {A A₀ : Around} {env : Env} {outer : List Env} {base h₀ : Heap} {L : Addr} {m : Str → Option Value} {rest : List (Addr × Obj)} {s : Shared}
    {Q E : Value → Shared → Prop} {st sc : Addr} {o os : Obj} {x : List Nat} {t1 : Tok}
    (B : Below A₀ base outer h₀) (F : Fr h₀ L s.heap m) (X : (Mine.hd.heap_39 w.params).In h₀)
    (N : News h₀ L s.heap ((st, o) :: (sc, os) :: rest)) (T : Top p loose mean mg mb h₀)
    (hA : A.frames = some (env :: outer)) (hf : env.frame = some L) (hke : env.scope.kind = .function) (hh : A.handled = none)
    (hd : A.depth + 20 < recursionLimit) (hu : A.units + 160 < cLine)
    (hst : LawSt sc o) (hos : ScrOk os) (hne : sc ≠ st) (hrest : ∀ p ∈ rest, p.1 ≠ st) (hx : x.length ≤ 3) (hx2 : ∀ c ∈ x, 65 ≤ c ∧ c ≤ 90)
    (hret : ∀ y t o' h' tk', MixedL x y → LawSt sc o' → Fr h₀ L h' m → News h₀ L h' ((st, o') :: (sc, os) :: rest) → Q (.str ⟨y.toArray⟩ t) { s with heap := h', toks := tk' }) :
    wpAny (model PySem.Challenge.rw_ez0207_01.row.prog w) A (call (.ref 131) [.ref st, .str ⟨x.toArray⟩ t1]) Q E s := by
  obtain ⟨hnd, dp, frs, gds, un⟩ := A
  dsimp only at hA hh hd hu
  subst hA hh
  walk_at "M enterC"
  intro g' L' h' tk' cells' FG' F' N' Y' B' X' T' l1
  k_cells Y'
  rename_i oc dc
  dsimp only at N' ⊢
  clear hf B F X T N
  replace F' : Fr g' L' h' (fun y => List.lookup y [(Str.ofString "text", .str ⟨x.toArray⟩ t1)]) := Fr.cg F' (putE (l := []) (fun _ => rfl))
  replace dc : oc.data = .cell (some (.ref st)) := dc
  replace N' : News g' L' h' ((L' + 1, oc) :: (st, o) :: (sc, os) :: rest) := N'
  walk_at "M go"
  refine ListComp_T F' (cl := [(Str.ofString "state", L' + 1)]) rfl (by decide) rfl (by decide) rfl ?_
  walk_at "M go"
  refine ⟨_, _, _, rfl, rfl, F', N', ?_, ?_, fun g => ?_⟩
  · simp only [List.size_toArray]; rw [sizeLine_eq]; omega
  · rw [Array.all_eq_true]
    intro i hi
    have := hx2 _ (List.getElem_mem (l := x) (n := i) (by simpa using hi))
    simp only [List.getElem_toArray, decide_eq_true_eq]
    omega
  have hsz : (⟨x.toArray⟩ : Str).cps.size = x.length := by simp
  rw [hsz]
  refine comp_ind (fun i ys nw => ∃ o' zs, nw = (L' + 1, oc) :: (st, o') :: (sc, os) :: rest ∧ LawSt sc o' ∧ MixedL (x.take i) zs ∧ StrsAre ys (zs.map fun c => (⟨#[c]⟩ : Str))) ⟨o, [], rfl, hst, by simpa using MixedL.nil, .nil⟩ ?_ ?_
  · rintro i ys news' hi ⟨o1, zs, rfl, hst1, hm1, hs1⟩ v I oI C oC D m₂ h tk E' ⟨c, tc, hc, rfl⟩ hC hm F2 N2 off ne
    have hc' : x[i]? = some c := by simpa using hc
    have hcx := hx2 c (List.mem_of_getElem? hc')
    k_lt l1
    simp only [LCg.Off3] at off
    have hl1 : Str.length ⟨#[c]⟩ = 1 := rfl
    have htake : x.take (i + 1) = x.take i ++ [c] := by simp [List.take_add_one, hc']
    walk_at "M go"
    · rename (Fr g' L' _ _) => F9
      rename (News g' L' _ _) => N9
      refine LCg.CompEnd.intro F9 N9 _ (fun _ h => h) (by simp only [LCg.Off3]; exact off) trivial ⟨_, zs ++ [c], rfl, by assumption, ?_, ?_⟩
      · rw [htake]; exact hm1.snoc (.inl rfl)
      · rw [List.map_append]; exact kct_snoc hs1
    · rename (Fr g' L' _ _) => F9
      rename (News g' L' _ _) => N9
      obtain ⟨r, hr, rfl⟩ : ∃ r, r < 26 ∧ c = 65 + r := ⟨c - 65, by omega, by omega⟩
      rw [lower_one r hr]
      refine LCg.CompEnd.intro F9 N9 _ (fun _ h => h) (by simp only [LCg.Off3]; exact off) trivial ⟨_, zs ++ [65 + r + 32], rfl, by assumption, ?_, ?_⟩
      · rw [htake]; exact hm1.snoc (.inr rfl)
      · rw [List.map_append]; exact kct_snoc hs1
  · rintro ys news' ⟨o1, zs, rfl, hst1, hm1, hs1⟩
    intro D h tk F2 N2 off
    rw [List.take_length] at hm1
    have hzl := hm1.length
    walk_at "M go"
    have hlen := sum_ones (zs.map fun c => (⟨#[c]⟩ : Str)) (by intro x hx; obtain ⟨c, _, rfl⟩ := List.mem_map.mp hx; exact Nat.le_refl 1)
    rw [List.length_map] at hlen
    refine join_list (News.isList N2 (.head _)) hs1 (by rw [show (Str.ofString "").length = 0 from rfl]; omega) ?_
    intro t9 k9
    refine leaveK_ F2 N2 ?_
    intro F9 N9
    rw [join0, flat_ones]
    exact hret zs _ o1 _ _ hm1 hst1 F9 (fun p hp => N9 p (.tail _ (.tail _ hp)))
end
section
theorem off_X0 : True := by
  w_top off
  trivial
local macro_rules | `(tactic| walk_at "M none") => `(tactic| fail "none")
local macro_rules | `(tactic| walk_at "M none") => `(tactic| fail "none")
local macro_rules | `(tactic| walk_at "M none") => `(tactic| fail "none")
local macro_rules | `(tactic| walk_at "M none") => `(tactic| fail "none")
local macro_rules | `(tactic| walk_at "M none") => `(tactic| fail "none")
local macro_rules | `(tactic| walk_at "M none") => `(tactic| fail "none")
local macro_rules | `(tactic| walk_at "M none") => `(tactic| fail "none")
local macro_rules | `(tactic| walk_at "M none") => `(tactic| fail "none")
local macro_rules | `(tactic| walk_at "M none") => `(tactic| fail "none")
local macro_rules | `(tactic| walk_at "M none") => `(tactic| fail "none")
local macro_rules | `(tactic| walk_at "M none") => `(tactic| fail "none")
local macro_rules | `(tactic| walk_at "M none") => `(tactic| fail "none")
local macro_rules | `(tactic| walk_at "M none") => `(tactic| fail "none")
local macro_rules | `(tactic| walk_at "M none") => `(tactic| fail "none")
local macro_rules | `(tactic| walk_at "M none") => `(tactic| fail "none")
local macro_rules | `(tactic| walk_at "M none") => `(tactic| fail "none")
local macro_rules | `(tactic| walk_at "M none") => `(tactic| fail "none")
local macro_rules | `(tactic| walk_at "M none") => `(tactic| fail "none")
local macro_rules | `(tactic| walk_at "M none") => `(tactic| fail "none")
local macro_rules | `(tactic| walk_at "M none") => `(tactic| fail "none")
local macro_rules | `(tactic| walk_at "M none") => `(tactic| fail "none")
local macro_rules | `(tactic| walk_at "M none") => `(tactic| fail "none")
local macro_rules | `(tactic| walk_at "M none") => `(tactic| fail "none")
local macro_rules | `(tactic| walk_at "M none") => `(tactic| fail "none")
local macro_rules | `(tactic| walk_at "M none") => `(tactic| fail "none")
local macro_rules | `(tactic| walk_at "M none") => `(tactic| fail "none")
local macro_rules | `(tactic| walk_at "M none") => `(tactic| fail "none")
local macro_rules | `(tactic| walk_at "M none") => `(tactic| fail "none")
local macro_rules | `(tactic| walk_at "M none") => `(tactic| fail "none")
local macro_rules | `(tactic| walk_at "M none") => `(tactic| fail "none")
local macro_rules | `(tactic| walk_at "M none") => `(tactic| fail "none")
local macro_rules | `(tactic| walk_at "M none") => `(tactic| fail "none")
local macro_rules | `(tactic| walk_at "M none") => `(tactic| fail "none")
local macro_rules | `(tactic| walk_at "M none") => `(tactic| fail "none")
local macro_rules | `(tactic| walk_at "M none") => `(tactic| fail "none")
local macro_rules | `(tactic| walk_at "M none") => `(tactic| fail "none")
local macro_rules | `(tactic| walk_at "M none") => `(tactic| fail "none")
local macro_rules | `(tactic| walk_at "M none") => `(tactic| fail "none")
local macro_rules | `(tactic| walk_at "M none") => `(tactic| fail "none")
local macro_rules | `(tactic| walk_at "M none") => `(tactic| fail "none")
local macro_rules | `(tactic| walk_at "M none") => `(tactic| fail "none")
local macro_rules | `(tactic| walk_at "M none") => `(tactic| fail "none")
local macro_rules | `(tactic| walk_at "M none") => `(tactic| fail "none")
local macro_rules | `(tactic| walk_at "M none") => `(tactic| fail "none")
local macro_rules | `(tactic| walk_at "M none") => `(tactic| fail "none")
local macro_rules | `(tactic| walk_at "M none") => `(tactic| fail "none")
local macro_rules | `(tactic| walk_at "M none") => `(tactic| fail "none")
local macro_rules | `(tactic| walk_at "M none") => `(tactic| fail "none")
local macro_rules | `(tactic| walk_at "M none") => `(tactic| fail "none")
local macro_rules | `(tactic| walk_at "M none") => `(tactic| fail "none")
local macro_rules | `(tactic| walk_at "M none") => `(tactic| fail "none")
local macro_rules | `(tactic| walk_at "M none") => `(tactic| fail "none")
local macro_rules | `(tactic| walk_at "M none") => `(tactic| fail "none")
local macro_rules | `(tactic| walk_at "M none") => `(tactic| fail "none")
local macro_rules | `(tactic| walk_at "M none") => `(tactic| fail "none")
local macro_rules | `(tactic| walk_at "M none") => `(tactic| fail "none")
local macro_rules | `(tactic| walk_at "M none") => `(tactic| fail "none")
local macro_rules | `(tactic| walk_at "M none") => `(tactic| fail "none")
local macro_rules | `(tactic| walk_at "M none") => `(tactic| fail "none")
local macro_rules | `(tactic| walk_at "M none") => `(tactic| fail "none")
local macro_rules | `(tactic| walk_at "M none") => `(tactic| fail "none")
local macro_rules | `(tactic| walk_at "M none") => `(tactic| fail "none")
local macro_rules | `(tactic| walk_at "M none") => `(tactic| fail "none")
local macro_rules | `(tactic| walk_at "M none") => `(tactic| fail "none")
local macro_rules | `(tactic| walk_at "M none") => `(tactic| fail "none")
local macro_rules | `(tactic| walk_at "M none") => `(tactic| fail "none")
local macro_rules | `(tactic| walk_at "M none") => `(tactic| fail "none")
local macro_rules | `(tactic| walk_at "M none") => `(tactic| fail "none")
local macro_rules | `(tactic| walk_at "M none") => `(tactic| fail "none")
local macro_rules | `(tactic| walk_at "M none") => `(tactic| fail "none")
local macro_rules | `(tactic| walk_at "M none") => `(tactic| fail "none")
local macro_rules | `(tactic| walk_at "M none") => `(tactic| fail "none")
local macro_rules | `(tactic| walk_at "M none") => `(tactic| fail "none")
local macro_rules | `(tactic| walk_at "M none") => `(tactic| fail "none")
local macro_rules | `(tactic| walk_at "M none") => `(tactic| fail "none")
local macro_rules | `(tactic| walk_at "M none") => `(tactic| fail "none")
local macro_rules | `(tactic| walk_at "M none") => `(tactic| fail "none")
local macro_rules | `(tactic| walk_at "M none") => `(tactic| fail "none")
local macro_rules | `(tactic| walk_at "M none") => `(tactic| fail "none")
local macro_rules | `(tactic| walk_at "M none") => `(tactic| fail "none")
local macro_rules | `(tactic| walk_at "M none") => `(tactic| fail "none")
local macro_rules | `(tactic| walk_at "M none") => `(tactic| fail "none")
local macro_rules | `(tactic| walk_at "M none") => `(tactic| fail "none")
local macro_rules | `(tactic| walk_at "M none") => `(tactic| fail "none")
local macro_rules | `(tactic| walk_at "M none") => `(tactic| fail "none")
local macro_rules | `(tactic| walk_at "M none") => `(tactic| fail "none")
local macro_rules | `(tactic| walk_at "M none") => `(tactic| fail "none")
local macro_rules | `(tactic| walk_at "M none") => `(tactic| fail "none")
local macro_rules | `(tactic| walk_at "M none") => `(tactic| fail "none")
local macro_rules | `(tactic| walk_at "M none") => `(tactic| fail "none")
local macro_rules | `(tactic| k_all) => `(tactic| assumption)
local macro_rules | `(tactic| walk_at "M enter") => `(tactic| (refine wpAny_call ?_; k_dflt (refine' code_def ?k1 ?k2 ?k3 ?k4 ?k5 ?kA ?kF ?kK ?k6 ?k7 ?k8 ?k9 ?kB ?_ ?c2 ?c3 ?c4 ?c5; (case kA => first | assumption | exact rfl); (case kF => assumption); (case kK => assumption); (case k1 => k_asm); (case k2 => k_asm); (case k3 => k_asm); (case k4 => k_asm); (case k5 => k_asm); (case k6 => k_is); (case k7 => k_is); (case k8 => first | omega | (dsimp only; omega)); (case k9 => exact BindsTo.of_eq rfl); (case c5 => decide); (case kB => exact locs rfl); (case c2 => exact rfl); (case c3 => exact rfl); (case c4 => exact rfl); k_whole)))
local macro_rules | `(tactic| walk_at "M enterT") => `(tactic| (refine wpAny_call ?_; k_dflt (refine' code_defT ?k1 ?k2 ?k3 ?k4 ?k5 ?kA ?kF ?kK ?k6 ?k7 ?k8 ?k9 ?kB ?_ ?c2 ?c3 ?c4 ?c5; (case kA => first | assumption | exact rfl); (case kF => assumption); (case kK => assumption); (case k1 => k_asm); (case k2 => k_asm); (case k3 => k_asm); (case k4 => k_asm); (case k5 => k_asm); (case k6 => k_is); (case k7 => k_is); (case k8 => first | omega | (dsimp only; omega)); (case k9 => exact BindsTo.of_eq rfl); (case c5 => decide); (case kB => exact locs rfl); (case c2 => exact rfl); (case c3 => exact rfl); (case c4 => exact rfl); k_whole)))
local macro_rules | `(tactic| walk_at "M open") => `(tactic| (rename Around => A9; rename (Around.frames _ = _) => hA9; rename (Around.handled _ = _) => hh9; revert hA9 hh9; rename (Around.depth _ + _ < _) => hd9; revert hd9; rename (Around.units _ + _ < _) => hu9; revert hu9; cases A9; dsimp only; intro hu9 hd9 hA9 hh9; subst hA9; subst hh9))
local macro_rules | `(tactic| walk_at "M noloop") => `(tactic| ((fail_if_success (with_reducible show wpAny _ _ (exec (Stmt.While _ _ _ _) _) _ _ _)); (fail_if_success (with_reducible show wpAny _ _ (exec (Stmt.For _ _ _ _ _) _) _ _ _)); (fail_if_success (with_reducible show LCg.CompSrc _ _ _ _ _ _ _ _ _ _ _ _ _ _)); (fail_if_success (with_reducible show wpAny _ _ (eval (PySem.Expr.ListComp _ _ _ _) _) _ _ _)); (fail_if_success (with_reducible show wpAny _ _ _ (fun it s₂ => PairAt3 _ _ _ _ _ _ _ _ _ _ it s₂) _ _))))
local macro_rules | `(tactic| walk_at "M go") => `(tactic| repeat' (walk_at "M noloop"; first | (k_unfold; (try dsimp only)) | (k_end; kc_close) | walk1 | (dsimp only; walk1) | (leave1; walk_say "STEP leave1"; (try dsimp only)) | fail "no step"))
local macro_rules | `(tactic| walk_at "And") => `(tactic| ((with_reducible show PySem.Str.length (_ ++ _) ≤ sizeLine ∧ wpAny _ _ (joinParts _ _) _ _ _); refine fs_and (by (simp only [len_mk, show Str.length Str.empty = 0 from rfl] at *); omega) ?_; intro zF hzF))
local macro_rules | `(tactic| walk_at "joinParts") => `(tactic| (first | (with_reducible show wpAny _ _ (joinParts _ []) _ _ _) | (with_reducible refine joinParts_nilE ?_)); refine fs_nil (by (simp only [len_mk, show Str.length Str.empty = 0 from rfl] at *); omega) ?_)
local macro_rules | `(tactic| walk_at "M enterC") => `(tactic| (refine wpAny_call ?_; k_dflt (refine' code_defC ?k1 ?k2 ?k3 ?k4 ?k5 ?kA ?kF ?kK ?k6 ?k7 ?k8 ?k9 ?kB ?kD ?_ ?c2 ?c3 ?c4; (case kA => first | assumption | exact rfl); (case kF => assumption); (case kK => assumption); (case k1 => k_asm); (case k2 => k_asm); (case k3 => k_asm); (case k4 => k_asm); (case k5 => k_asm); (case k6 => k_is); (case k7 => k_is); (case k8 => first | omega | (dsimp only; omega)); (case k9 => exact BindsTo.of_eq rfl); (case kB => exact rfl); (case kD => decide +kernel); (case c2 => exact rfl); (case c3 => exact rfl); (case c4 => exact rfl); k_whole)))
local macro_rules | `(tactic| walk_at "M next") => `(tactic| (k_here; (with_reducible show wpAny _ _ (call (Value.ref 105) [Value.ref _, Value.int _ _]) _ _ _); k_dflt (refine' next_u ?B ?F ?X ?N ?T ?hA ?hf ?hke ?hh ?hd ?hu ?hst ?hos ?U ?hsc ?m0 ?m1 ?_; (case hA => exact rfl); (case hf => exact rfl); (case hke => exact rfl); (case hh => exact rfl); (case B => k_asm); (case F => k_asm); (case X => k_asm); (case N => k_asm); (case T => k_asm); (case hst => assumption); (case hos => assumption); (case U => k_updF); (case hsc => k_mem); (case hd => ktr_room); (case hu => ktr_units); (case m0 => omega); (case m1 => omega)); intro r9 t9 o9 h9 tk9 hr0 hr1 hst9 F9 N9; (try dsimp only at N9)))
theorem entry_unchain : entryFor table "proto.unchain" = some Builtin.«proto.unchain» := entryFor_of_tree (by kernel_rfl)
section
variable {prog : Program} {w : World} {A : Around} {E : Value → Shared → Prop} {s : Shared}
/-- a raise while another exception is being handled: the new one is chained to it -/
theorem raiseNew_in {α : Type} {e e0 : Addr} {o0 oe : Obj} {vs0 vs : Array Value} {Q : α → Shared → Prop} (hh : A.handled = some (.ref e0)) (hne : e0 ≠ e) (h0 : s.heap.get? e0 = some o0) (hd0 : o0.data = .fields vs0) (h2 : vs0[2]? = some .none)
    (he : s.heap.get? e = some oe) (hd : oe.data = .fields vs) (hsz : 2 < vs.size) (h : E (.ref e) { s with heap := s.heap.update e (Obj.mapFields (·.setIfInBounds 2 (.ref e0))) }) :
    wpAny (model prog w) A (raiseNew (.ref e) : Sem α) Q E s := by
  unfold raiseNew
  refine wpAny_bind (wpAny_handled ?_)
  rw [hh]
  have hn : (Value.ref e0 != Value.ref e) = true := by simp [hne]
  dsimp only
  rw [if_pos hn]
  refine wpAny_bind (wpAny_holding (PyProof.Rows.runValue_entry entry_unchain ?_))
  unfold Builtin.«proto.unchain»
  dsimp only
  refine wpAny_bind (wpAny_field h0 hd0 h2 ?_)
  rw [if_pos (by decide)]
  refine wpAny_pure ⟨_, rfl, ?_⟩
  unfold updateField
  refine wpAny_bind (wpAny_bind (wpAny_load he ?_))
  rw [hd]
  dsimp only
  rw [if_pos hsz]
  exact wpAny_update he (wpAny_throw h)
/-- what a raise statement wants of the made exception, while another one is being handled -/
def RaisableC (E : Value → Shared → Prop) (e0 : Addr) (v : Value) (s : Shared) : Prop :=
  ∃ e ob t o0 vs0, v = .ref e ∧ (s.heap.get? e = some ob ∧ ob.cls = .type "ValueError" ∧ ob.data = .fields #[t, .none, .none, .none, .bool false, .none]) ∧ e0 ≠ e ∧ s.heap.get? e0 = some o0 ∧ o0.data = .fields vs0 ∧ vs0[2]? = some .none ∧
    E (.ref e) { s with heap := s.heap.update e (Obj.mapFields (·.setIfInBounds 2 (.ref e0))) }
theorem Raise_in {env : Env} {x : PySem.Expr} {pos : Pos} {e0 : Addr} {Q : Flow → Shared → Prop} (hh : A.handled = some (.ref e0)) (h : wpAny (model prog w) A (eval x env) (RaisableC E e0) E s) :
    wpAny (model prog w) A (exec (.Raise (some x) none pos) env) Q E s := by
  show wpAny _ A (do standAt pos; raiseStmt env (some (do let v ← eval x env; standAt pos; pure v)) none) Q E s
  refine wpAny_bind (wpAny_standAt ?_)
  unfold raiseStmt
  dsimp only
  refine wpAny_bind (wpAny_bind (wpAny_mono h (fun v s₁ h₁ => wpAny_bind (wpAny_standAt (wpAny_pure ?_))) fun _ _ x => x))
  obtain ⟨e, ⟨oc, od, odt, osl⟩, t, o0, vs0, rfl, ⟨he, hc, hd⟩, hne, h0, hd0, h2, hE⟩ := h₁
  dsimp only at hc hd
  subst hc hd
  obtain ⟨hp, g, d, tk, os⟩ := s₁
  have hsub := PySem.F.excRaise_ValueError.isExc
  have hmeta := PySem.F.excRaise_ValueError.plainMeta
  have fin : wpAny (model prog w) A (raiseNew (.ref e) : Sem Flow) Q E ⟨hp, g, d, tk, os⟩ := raiseNew_in hh hne h0 hd0 h2 he rfl (by simp) hE
  repeat (first | exact fin | refine wpAny_loadPart he ?_ | wp_step)
end
section
variable {M : Model} {A : Around} {E : Value → Shared → Prop} {s : Shared}
def NotedC (B : Heap) (e : Addr) (cls : Value) (h : Heap) : Prop := B.StaysIn h ∧ ∃ oe vs T oT ts, h.get? e = some oe ∧ oe.cls = cls ∧ oe.data = .fields vs ∧ vs[1]? = some (.ref T) ∧ vs[2]? = some .none ∧ B.get? T = none ∧ T ≠ e ∧ h.get? T = some oT ∧ oT.data = .fields ts ∧ 3 < ts.size
theorem NotedC.land {B : Heap} {e : Addr} {cls : Value} {Q : Unit → Shared → Prop} (N : NotedC B e cls s.heap) (h : ∀ h', NotedC B e cls h' → s.heap.UpToSlots h' → Q () { s with heap := h' }) : wpAny M A (setFlight (.ref e) none) Q E s := by
  obtain ⟨st, oe, vs, T, oT, ts, he, hc, hd, h1, h2, hT0, hTe, hT, htd, h3⟩ := N
  have hdd := Obj.data_mapFields htd (·.setIfInBounds 3 Value.none)
  have hTT := Heap.get?_update_self (Obj.mapFields (·.setIfInBounds 3 Value.none)) hT (Obj.isFreed_of_fields hdd)
  refine wpAny_setFlight_none he hd h1 hT htd h3 (h _ ⟨fun b o hb => ?_, oe, vs, T, _, _, ?_, hc, hd, h1, h2, hT0, hTe, hTT, hdd, by simpa using h3⟩ fun b o hb hn => ⟨o.slots, ?_⟩)
  · exact (Heap.get?_update_ne _ _ _ _ (fun q => by rw [q, hT0] at hb; cases hb)).trans (st b o hb)
  · exact (Heap.get?_update_ne _ _ _ _ hTe.symm).trans he
  · exact (Heap.get?_update_ne _ _ _ _ (fun q => by rw [q, hT] at hb; cases hb; exact hn _ htd)).trans hb
theorem entry_C {B : Heap} {env : Env} {outer : List Env} {L e : Addr} {oe : Obj} {vs : Array Value} {hd9 : Value} {hn9 : Bool} {Q : Unit → Shared → Prop}
    (hfr : A.frames = some (env :: outer)) (hl : s.heap.FunFrames B (env :: outer)) (hf : env.frame = some L) (he : s.heap.get? e = some oe) (hkb : B.StaysIn s.heap) (hen : B.get? e = none) (hd : oe.data = .fields vs)
    (hsz : 1 < vs.size) (h2 : vs[2]? = some .none) (h : ∀ h', NotedC B e oe.cls h' → s.heap.UpToSlots h' → Q () { s with heap := h' }) :
    wpAny M A (do let a ← frameOf env; let pl ← entryPlaceOf L hn9; let b ← EntryCells.newEntry hd9 a .none (rawInt L) .none pl; setField (.ref e) 1 b) Q E s := by
  refine wpAny_bind (wpAny_frameOf_fun hfr hl hf fun h₁ so => ?_)
  refine wpAny_bind (wpAny_entryPlaceOf fun pl hpl => ?_)
  unfold EntryCells.newEntry newFields
  refine wpAny_bind (wpAny_newObj_type ?_ (hpl.sizeOk5 _ _ _ _ _))
  generalize hts : ([hd9, Value.ref L, .none, rawInt L, .none] ++ (if pl.isEmpty then List.replicate 6 Value.none else pl)).toArray = ts
  have h3 : 3 < ts.size := by rw [← hts]; simp
  have nf : ∀ b ∈ (env :: outer).filterMap (·.frame), b ≠ e := fun b hm q => by
    obtain ⟨_, o, ho, hnf⟩ := hl.mem hm
    rw [q, he] at ho; cases ho; exact hnf vs hd
  have e1 : h₁.get? e = some oe := (so.2.1 e fun hm => nf e hm rfl).trans he
  have b1 : B.StaysIn h₁ := fun b o hb => (so.2.1 b fun hm => by rw [(hl.mem hm).1] at hb; cases hb).trans (hkb b o hb)
  have e2 := Heap.get?_push_of_some (h := h₁) { cls := .type "traceback", dict := none, data := .fields ts } e1
  have hT := Heap.get?_push_size h₁ (o := { cls := .type "traceback", dict := none, data := .fields ts }) rfl
  have ne : h₁.objs.size ≠ e := Nat.ne_of_gt (Heap.lt_size e1)
  have d3 := Obj.data_mapFields hd (·.setIfInBounds 1 (Value.ref h₁.objs.size))
  have e3 := Heap.get?_update_self (Obj.mapFields (·.setIfInBounds 1 (Value.ref h₁.objs.size))) e2 (Obj.isFreed_of_fields d3)
  refine wpAny_setField e2 hd hsz (h _ ⟨fun b o hb => ?_, _, _, h₁.objs.size, _, _, e3, Obj.cls_mapFields _ _, d3, by simp [hsz], by rw [Array.getElem?_setIfInBounds_ne (by decide)]; exact h2, b1.fresh, ne, (Heap.get?_update_ne _ _ _ _ ne).trans hT, rfl, h3⟩ fun b o hb hn => ?_)
  · refine (Heap.get?_update_ne _ _ _ _ (fun q => by rw [q, hen] at hb; cases hb)).trans (Heap.get?_push_of_some _ (b1 b o hb))
  · obtain ⟨sl, hs⟩ := so.2.2 b o hb
    exact ⟨sl, (Heap.get?_update_ne _ _ _ _ (fun q => by rw [q, he] at hb; cases hb; exact hn _ hd)).trans (Heap.get?_push_of_some _ hs)⟩
end
section
variable {prog : Program} {w : World} {A₀ : Around} {E : Value → Shared → Prop} {s' : Shared} {base g G h : Heap} {outer : List Env} {L a e : Addr} {m : Str → Option Value} {name : Str} {scope : Scope} {cd : Value}
  {n : Str} {b₀ : Stmt} {suite : List Stmt} {pos np : Pos} {rest : List ExceptHandler} {Q : Flow → Shared → Prop} {news : List (Addr × Obj)} {KF : Frag}
  {p : Program} {loose : List Str} {mean : ExcName → Option Value} {mg mb : Str → Option Value} {x : Str} {X T' : String}
theorem hide_facts (F : Fr g L h m) (N : News g L h news) (K : Below A₀ base outer g) (hk : scope.kind = .function) :
    base.StaysIn (hideAll h ((envOf name scope L a cd :: outer).filterMap (·.frame))) ∧ (∀ q ∈ news, (hideAll h ((envOf name scope L a cd :: outer).filterMap (·.frame))).get? q.1 = some q.2 ∧ g.get? q.1 = none) := by
  have K' := K.push (name := name) (a := a) (cd := cd) F hk
  refine ⟨fun b o q => hideAll_get _ (K'.stays b o q) fun hm => ?_, fun q hq => ⟨hideAll_get _ (N q hq).1 fun hm => ?_, (N q hq).2.2⟩⟩
  · rw [(K'.frames.mem hm).1] at q; cases q
  · rcases kts_mem hm with z | z
    · exact (N q hq).2.1 z
    · obtain ⟨o, ho, _⟩ := (K.frames.mem z).2
      rw [(N q hq).2.2] at ho; cases ho
/-- an exception raised in this frame is caught in this frame by a class of the language -/
theorem caught_NX (hx : Heap.NewExc h s'.heap e X) (F : Fr g L h m) (N : News g L h news) (K : Below A₀ base outer g) (XB : KF.In base) (TB : Top p loose mean mg mb base)
    (ex : nsIn KF mainGlobals x = some none) (hv : bootBuiltins x = some (.type T')) (hn' : x ≠ "__name__")
    (hexc : isSubtype (.type T') (.type "BaseException") = pure true) (hnt : isSubtype (.type ((Manifest.find? T').elim "type" fun y => y.metatype)) (.type "tuple") = pure false) (hsub : isSubtype (.type X) (.type T') = pure true)
    (k : ∀ h' g', KtsTurn (outer.filterMap (·.frame)) g g' → Fr g' L h' m → News g' L h' news → Below A₀ base outer g' → KF.In g' → Top p loose mean mg mb g' → (∃ o0 vs0, h'.get? e = some o0 ∧ o0.data = .fields vs0 ∧ vs0[2]? = some .none) →
      wpAny (model prog w) ((A₀.deeper (envOf name scope L a cd)).mark (some (.ref e))) (execs (b₀ :: suite) (envOf name scope L a cd)) Q E { s' with heap := h' })
    (hk : scope.kind = .function := by rfl) (hxk : (envOf name scope L a cd).kindOf x = some .globalImplicit := by rfl) (hd' : (x == ("__debug__" : Str)) = false := by decide)
    (hE : PassesOwnAt (model prog w) ((A₀.deeper (envOf name scope L a cd)).mark (some (.ref e))) (A₀.deeper (envOf name scope L a cd)) (envOf name scope L a cd) E := by passes_own) :
    wpAny (model prog w) (A₀.deeper (envOf name scope L a cd)) (noteFrame (.ref e) (envOf name scope L a cd))
      (fun _ s₂ => wpAny (model prog w) (A₀.deeper (envOf name scope L a cd)) (setFlight (.ref e) none) (fun _ s₃ =>
        wpAny (model prog w) (A₀.deeper (envOf name scope L a cd)) (handleBy (.ref e) (envOf name scope L a cd) (.ExceptHandler (some (.Name x np)) none (b₀ :: suite) pos :: rest)) Q E s₃) E s₂) E s' := by
  have K' := K.push (name := name) (a := a) (cd := cd) F hk
  obtain ⟨st, hl⟩ := hide_facts (name := name) (scope := scope) (a := a) (cd := cd) F N K hk
  generalize hfs : (envOf name scope L a cd :: outer).filterMap (·.frame) = fs at *
  have hLm : L ∈ fs := by rw [← hfs]; exact List.mem_filterMap.mpr ⟨_, .head _, rfl⟩
  have hin : ∀ env ∈ (envOf name scope L a cd :: outer), ∀ b, env.frame = some b → b ∈ fs := fun env he b hb => by rw [← hfs]; exact List.mem_filterMap.mpr ⟨env, he, hb⟩
  have sg : ∀ b o, h.get? b = some o → b ∉ fs → (hideAll h fs).get? b = some o := fun b o q nm => hideAll_get _ q nm
  obtain ⟨ob, tp, he, hcls, hd⟩ := hx.there
  have hen : (hideAll h fs).get? e = none := by
    cases q : (hideAll h fs).get? e with
    | none => rfl
    | some o => have := of_hideAll _ q; rw [hx.new] at this; cases this
  have hL : (hideAll h fs).get? L = none := hideAll_none _ hLm
  unfold noteFrame
  simp only [show (envOf name scope L a cd).frame = some L from rfl]
  refine wpAny_bind (wpAny_field he hd (x := .none) rfl ?_)
  rw [if_neg (by decide)]
  refine entry_C K'.stack ((funFrames_hide K'.frames hin).of_keeps fun b o hb _ => ⟨o, hx.keeps b o hb, rfl⟩) rfl he (fun b o hb => hx.keeps b o (of_hideAll _ hb)) hen hd (by simp) rfl fun h₄ n₄ u₄ => ?_
  rw [hcls] at n₄
  refine n₄.land fun h₅ n₅ u₅ => ?_
  have up₅ : h.UpToSlots h₅ := ((Heap.UpToSlots.of_keeps hx.keeps).trans u₄).trans u₅
  obtain ⟨g₅, T₅, F₅, K₅⟩ := kts_ground (name := name) (scope := scope) (a := a) (cd := cd) K F (by rw [hfs]; exact sg) n₅.1 up₅
  have n₅' := n₅
  obtain ⟨_, ob5, _, _, _, _, ho5, hc5, _⟩ := n₅'
  refine wpAny_handleBy_builtin (X := X) (T := T') (b := true) hexc hnt hsub (name_B F₅ (XB.keeps K₅.stays) (topRead_of (TB.keeps K₅.stays)) ex hv hn' ⟨rfl, ⟨ob5, ho5, hc5⟩, ?_⟩ hk hxk hd')
  refine n₅.land fun h₆ n₆ u₆ => ?_
  obtain ⟨g₆, T₆, F₆, K₆⟩ := kts_ground (name := name) (scope := scope) (a := a) (cd := cd) K F (by rw [hfs]; exact sg) n₆.1 (up₅.trans u₆)
  have Nl : News g₆ L h₆ news := fun q hq => ⟨n₆.1 _ _ (hl q hq).1, (fun z => by have := (hl q hq).1; rw [z, hL] at this; cases this), T₆.none_ _ (hl q hq).2⟩
  obtain ⟨_, ob6, vs6, _, _, _, ho6, _, hd6, _, h26, _⟩ := n₆
  exact wpAny_passesOwnAt hE (k h₆ g₆ T₆ F₆ Nl K₆ (XB.keeps K₆.stays) (TB.keeps K₆.stays) ⟨ob6, vs6, ho6, hd6, h26⟩)
/-- a chained exception leaves this frame -/
theorem leave_chain {cls : String} {e0 : Addr} {ob : Obj} {t : Value} {Q : Unit → Shared → Prop} {E' : Value → Shared → Prop} (K : Below A₀ base outer g) (hk0 : ∀ b o, h.get? b = some o → s'.heap.get? b = some o) (hn0 : h.get? e = none)
    (he : s'.heap.get? e = some ob) (hc : ob.cls = .type cls) (hd : ob.data = .fields #[t, .none, .ref e0, .none, .bool false, .none]) (F : Fr g L h m) (N : News g L h news)
    (hQ : ∀ h', RaisedSN base g outer e (.type cls) news h' → g.UpToSlots h' → Q () { s' with heap := h' }) (hk : scope.kind = .function := by rfl) :
    wpAny (model prog w) (A₀.deeper (envOf name scope L a cd)) (leaving (envOf name scope L a cd) (.ref e)) Q E' s' := by
  have K' := K.push (name := name) (a := a) (cd := cd) F hk
  obtain ⟨st, hl⟩ := hide_facts (name := name) (scope := scope) (a := a) (cd := cd) F N K hk
  generalize hfs : (envOf name scope L a cd :: outer).filterMap (·.frame) = fs at *
  have hin : ∀ env ∈ (envOf name scope L a cd :: outer), ∀ b, env.frame = some b → b ∈ fs := fun env he b hb => by rw [← hfs]; exact List.mem_filterMap.mpr ⟨env, he, hb⟩
  have hen : (hideAll h fs).get? e = none := by
    cases q : (hideAll h fs).get? e with
    | none => rfl
    | some o => have := of_hideAll _ q; rw [hn0] at this; cases this
  have sg : ∀ b o, g.get? b = some o → b ∉ outer.filterMap (·.frame) → (hideAll h fs).get? b = some o := fun b o q nm => hideAll_get _ (F.keep b o q) fun hm => by
    rw [← hfs] at hm
    rcases kts_mem hm with z | z
    · rw [z, kts_self F] at q; cases q
    · exact nm z
  refine wpAny_leaving_firstW (a0 := t) K'.stack ((funFrames_hide K'.frames hin).of_keeps fun b o hb _ => ⟨o, hk0 b o hb, rfl⟩) rfl he (fun b o hb => hk0 b o (of_hideAll _ hb)) hen hd rfl rfl fun h' hL => ?_
  obtain ⟨k1, ⟨_, _, k2⟩, k3, k4⟩ := hL
  rw [hc] at k3
  exact hQ h' ⟨_, t, st, sg, fun q hq => ⟨(hl q hq).1, (hl q hq).2, fresh_of_stays K.stays (hl q hq).2⟩, k1, hen, k2, k3⟩ (((Heap.UpToSlots.of_keeps F.keep).trans (Heap.UpToSlots.of_keeps hk0)).trans k4)
end
theorem RaisedSN.sub {base G : Heap} {l : List Env} {e : Addr} {cls : Value} {nw news : List (Addr × Obj)} {h : Heap} (R : RaisedSN base G l e cls nw h) (s : ∀ p ∈ news, p ∈ nw) : RaisedSN base G l e cls news h := by
  obtain ⟨B, a0, hB, hG, hl, hfl⟩ := R
  exact ⟨B, a0, hB, hG, fun q hq => hl q (s q hq), hfl⟩
theorem RaisedSN.turn {base G G' : Heap} {l : List Env} {e : Addr} {cls : Value} {news : List (Addr × Obj)} {h : Heap} (R : RaisedSN base G' l e cls news h) (T : KtsTurn (l.filterMap (·.frame)) G G') : RaisedSN base G l e cls news h := by
  obtain ⟨B, a0, hB, hG, hl, hfl⟩ := R
  refine ⟨B, a0, hB, fun b o q nm => hG b o (T.other b o q nm) nm, fun q hq => ⟨(hl q hq).1, ?_, (hl q hq).2.2⟩, hfl⟩
  cases e : G.get? q.1 with
  | none => rfl
  | some o => obtain ⟨sl, z⟩ := T.up e; rw [(hl q hq).2.1] at z; cases z
theorem KtsTurn.upTo {fs : List Addr} {g g' : Heap} (T : KtsTurn fs g g') : g.UpToSlots g' := fun b o e _ => T.up e
theorem RaisedS.sub {base G : Heap} {l : List Env} {e t : Addr} {cls : Value} {vs : List Value} {nw news : List (Addr × Obj)} {h : Heap} (R : RaisedS base G l e cls t vs nw h) (s : ∀ p ∈ news, p ∈ nw) : RaisedS base G l e cls t vs news h := by
  obtain ⟨⟨B, hB, hG, hl, hfl, hn⟩, ht⟩ := R
  exact ⟨⟨B, hB, hG, fun q hq => hl q (s q hq), hfl, hn⟩, ht⟩
end
section
theorem off_Z0 : True := by
  w_top off
  trivial
local macro_rules | `(tactic| k_all) => `(tactic| assumption)
local macro_rules | `(tactic| walk_at "M enter") => `(tactic| (refine wpAny_call ?_; k_dflt (refine' code_def ?k1 ?k2 ?k3 ?k4 ?k5 ?kA ?kF ?kK ?k6 ?k7 ?k8 ?k9 ?kB ?_ ?c2 ?c3 ?c4 ?c5; (case kA => first | assumption | exact rfl); (case kF => assumption); (case kK => assumption); (case k1 => k_asm); (case k2 => k_asm); (case k3 => k_asm); (case k4 => k_asm); (case k5 => k_asm); (case k6 => k_is); (case k7 => k_is); (case k8 => first | omega | (dsimp only; omega)); (case k9 => exact BindsTo.of_eq rfl); (case c5 => decide); (case kB => exact locs rfl); (case c2 => exact rfl); (case c3 => exact rfl); (case c4 => exact rfl); k_whole)))
local macro_rules | `(tactic| walk_at "M enterT") => `(tactic| (refine wpAny_call ?_; k_dflt (refine' code_defT ?k1 ?k2 ?k3 ?k4 ?k5 ?kA ?kF ?kK ?k6 ?k7 ?k8 ?k9 ?kB ?_ ?c2 ?c3 ?c4 ?c5; (case kA => first | assumption | exact rfl); (case kF => assumption); (case kK => assumption); (case k1 => k_asm); (case k2 => k_asm); (case k3 => k_asm); (case k4 => k_asm); (case k5 => k_asm); (case k6 => k_is); (case k7 => k_is); (case k8 => first | omega | (dsimp only; omega)); (case k9 => exact BindsTo.of_eq rfl); (case c5 => decide); (case kB => exact locs rfl); (case c2 => exact rfl); (case c3 => exact rfl); (case c4 => exact rfl); k_whole)))
local macro_rules | `(tactic| walk_at "M open") => `(tactic| (rename Around => A9; rename (Around.frames _ = _) => hA9; rename (Around.handled _ = _) => hh9; revert hA9 hh9; rename (Around.depth _ + _ < _) => hd9; revert hd9; rename (Around.units _ + _ < _) => hu9; revert hu9; cases A9; dsimp only; intro hu9 hd9 hA9 hh9; subst hA9; subst hh9))
local macro_rules | `(tactic| walk_at "M noloop") => `(tactic| ((fail_if_success (with_reducible show wpAny _ _ (exec (Stmt.While _ _ _ _) _) _ _ _)); (fail_if_success (with_reducible show wpAny _ _ (exec (Stmt.For _ _ _ _ _) _) _ _ _)); (fail_if_success (with_reducible show LCg.CompSrc _ _ _ _ _ _ _ _ _ _ _ _ _ _)); (fail_if_success (with_reducible show wpAny _ _ (eval (PySem.Expr.ListComp _ _ _ _) _) _ _ _)); (fail_if_success (with_reducible show wpAny _ _ _ (fun it s₂ => PairAt3 _ _ _ _ _ _ _ _ _ _ it s₂) _ _))))
local macro_rules | `(tactic| walk_at "M go") => `(tactic| repeat' (walk_at "M noloop"; first | (k_unfold; (try dsimp only)) | (k_end; kc_close) | walk1 | (dsimp only; walk1) | (leave1; walk_say "STEP leave1"; (try dsimp only)) | fail "no step"))
local macro_rules | `(tactic| walk_at "And") => `(tactic| ((with_reducible show PySem.Str.length (_ ++ _) ≤ sizeLine ∧ wpAny _ _ (joinParts _ _) _ _ _); refine fs_and (by (simp only [len_mk, show Str.length Str.empty = 0 from rfl] at *); omega) ?_; intro zF hzF))
local macro_rules | `(tactic| walk_at "joinParts") => `(tactic| (first | (with_reducible show wpAny _ _ (joinParts _ []) _ _ _) | (with_reducible refine joinParts_nilE ?_)); refine fs_nil (by (simp only [len_mk, show Str.length Str.empty = 0 from rfl] at *); omega) ?_)
local macro_rules | `(tactic| walk_at "M enterC") => `(tactic| (refine wpAny_call ?_; k_dflt (refine' code_defC ?k1 ?k2 ?k3 ?k4 ?k5 ?kA ?kF ?kK ?k6 ?k7 ?k8 ?k9 ?kB ?kD ?_ ?c2 ?c3 ?c4; (case kA => first | assumption | exact rfl); (case kF => assumption); (case kK => assumption); (case k1 => k_asm); (case k2 => k_asm); (case k3 => k_asm); (case k4 => k_asm); (case k5 => k_asm); (case k6 => k_is); (case k7 => k_is); (case k8 => first | omega | (dsimp only; omega)); (case k9 => exact BindsTo.of_eq rfl); (case kB => exact rfl); (case kD => decide +kernel); (case c2 => exact rfl); (case c3 => exact rfl); (case c4 => exact rfl); k_whole)))
local macro_rules | `(tactic| walk_at "M next") => `(tactic| (k_here; (with_reducible show wpAny _ _ (call (Value.ref 105) [Value.ref _, Value.int _ _]) _ _ _); k_dflt (refine' next_u ?B ?F ?X ?N ?T ?hA ?hf ?hke ?hh ?hd ?hu ?hst ?hos ?U ?hsc ?m0 ?m1 ?_; (case hA => exact rfl); (case hf => exact rfl); (case hke => exact rfl); (case hh => exact rfl); (case B => k_asm); (case F => k_asm); (case X => k_asm); (case N => k_asm); (case T => k_asm); (case hst => assumption); (case hos => assumption); (case U => k_updF); (case hsc => k_mem); (case hd => ktr_room); (case hu => ktr_units); (case m0 => omega); (case m1 => omega)); intro r9 t9 o9 h9 tk9 hr0 hr1 hst9 F9 N9; (try dsimp only at N9)))
theorem owner_rev : Manifest.owners.lookup (String.ofList ['d', 'e', 's', 'r', 'e', 'v', 'e', 'r'].reverse) = some Manifest.sig_reversed := by kernel_rfl
theorem slot_rev_next : Slot "reversed" "__next__" "reversed.__next__" :=
  .of (owner := "reversed") (n := "__next__") (by rw [typeLookup_type, builtinLookup_eq_fast]; kernel_rfl) (by decide +kernel) (by decide +kernel) (by decide +kernel)
    (by first | exact .inl (by decide +kernel) | exact .inr (by decide +kernel)) (by rw [isSubtype_type]; kernel_rfl)
theorem entry_rev_next : entryFor table "reversed.__next__" = some Builtin.«reversed.__next__» := entryFor_of_tree (by kernel_rfl)
theorem args_rev_next_1 (a : Value) : argsOk "reversed.__next__" ⟨[a], []⟩ := by
  unfold argsOk; rw [signature?_of (id := "reversed.__next__") (n := ['_', '_', 't', 'x', 'e', 'n', '_', '_']) (o := ['d', 'e', 's', 'r', 'e', 'v', 'e', 'r']) (by kernel_rfl) owner_rev]; kernel_rfl
theorem slot_rev_iter : Slot "reversed" "__iter__" "reversed.__iter__" :=
  .of (owner := "reversed") (n := "__iter__") (by rw [typeLookup_type, builtinLookup_eq_fast]; kernel_rfl) (by decide +kernel) (by decide +kernel) (by decide +kernel)
    (by first | exact .inl (by decide +kernel) | exact .inr (by decide +kernel)) (by rw [isSubtype_type]; kernel_rfl)
theorem args_rev_iter_1 (a : Value) : argsOk "reversed.__iter__" ⟨[a], []⟩ := by
  unfold argsOk; rw [signature?_of (id := "reversed.__iter__") (n := ['_', '_', 'r', 'e', 't', 'i', '_', '_']) (o := ['d', 'e', 's', 'r', 'e', 'v', 'e', 'r']) (by kernel_rfl) owner_rev]; kernel_rfl
theorem entry_rev_iter : entryFor table "reversed.__iter__" = some Builtin.«dict_keyiterator.__iter__» :=
  entryFor_alias (id' := "dict_keyiterator.__iter__") (by kernel_rfl) (by first | rfl | decide +kernel | (unfold String.splitOn; simp +decide [String.splitOnAux])) (by decide +kernel) (by kernel_rfl)
theorem slot_rev_init : Slot "reversed" "__init__" "object.__init__" :=
  .of (owner := "object") (n := "__init__") (by rw [typeLookup_type, builtinLookup_eq_fast]; kernel_rfl) (by decide +kernel) (by decide +kernel) (by decide +kernel)
    (by first | exact .inl (by decide +kernel) | exact .inr (by decide +kernel)) (by rw [isSubtype_type]; kernel_rfl)
theorem called_rev : TypeCalled "reversed" "reversed.__new__" "object.__init__" :=
  ⟨by decide +kernel, by decide +kernel, ⟨_, _, PySem.F.mro_reversed⟩, PySem.F.made_reversed, by decide +kernel, by rw [isSubtype_type]; kernel_rfl, slot_rev_init⟩
theorem typeCall_rev (a : Value) : checkTypeCall "reversed" ⟨[a], []⟩ = pure () := by kernel_rfl
theorem newCall_rev (a : Value) : checkBuiltinCall "reversed.__new__" ⟨[.type "reversed", a], []⟩ = pure () := by kernel_rfl
theorem no_rev_str : typeLookup (.type "str") "__reversed__" = pure none := by rw [typeLookup_type, builtinLookup_eq_fast]; kernel_rfl
abbrev revS (x : Str) (t : Tok) (k : Int) : Obj := { cls := .type "reversed", data := .fields #[.str x t, rawInt k] }
theorem sub_str_dict : isSubtype (.type "str") (.type "dict") = pure false := by rw [isSubtype_type]; kernel_rfl
end
section
theorem off_Z1 : True := by
  w_top off
  trivial
local macro_rules | `(tactic| walk_at "M none") => `(tactic| fail "none")
local macro_rules | `(tactic| walk_at "M none") => `(tactic| fail "none")
local macro_rules | `(tactic| walk_at "M none") => `(tactic| fail "none")
local macro_rules | `(tactic| walk_at "M none") => `(tactic| fail "none")
local macro_rules | `(tactic| walk_at "M none") => `(tactic| fail "none")
local macro_rules | `(tactic| walk_at "M none") => `(tactic| fail "none")
local macro_rules | `(tactic| walk_at "M none") => `(tactic| fail "none")
local macro_rules | `(tactic| walk_at "M none") => `(tactic| fail "none")
local macro_rules | `(tactic| walk_at "M none") => `(tactic| fail "none")
local macro_rules | `(tactic| walk_at "M none") => `(tactic| fail "none")
local macro_rules | `(tactic| walk_at "M none") => `(tactic| fail "none")
local macro_rules | `(tactic| walk_at "M none") => `(tactic| fail "none")
local macro_rules | `(tactic| walk_at "M none") => `(tactic| fail "none")
local macro_rules | `(tactic| walk_at "M none") => `(tactic| fail "none")
local macro_rules | `(tactic| walk_at "M none") => `(tactic| fail "none")
local macro_rules | `(tactic| walk_at "M none") => `(tactic| fail "none")
local macro_rules | `(tactic| walk_at "M none") => `(tactic| fail "none")
local macro_rules | `(tactic| walk_at "M none") => `(tactic| fail "none")
local macro_rules | `(tactic| walk_at "M none") => `(tactic| fail "none")
local macro_rules | `(tactic| walk_at "M none") => `(tactic| fail "none")
local macro_rules | `(tactic| walk_at "M none") => `(tactic| fail "none")
local macro_rules | `(tactic| walk_at "M none") => `(tactic| fail "none")
local macro_rules | `(tactic| walk_at "M none") => `(tactic| fail "none")
local macro_rules | `(tactic| walk_at "M none") => `(tactic| fail "none")
local macro_rules | `(tactic| walk_at "M none") => `(tactic| fail "none")
local macro_rules | `(tactic| walk_at "M none") => `(tactic| fail "none")
local macro_rules | `(tactic| walk_at "M none") => `(tactic| fail "none")
local macro_rules | `(tactic| walk_at "M none") => `(tactic| fail "none")
local macro_rules | `(tactic| walk_at "M none") => `(tactic| fail "none")
local macro_rules | `(tactic| walk_at "M none") => `(tactic| fail "none")
local macro_rules | `(tactic| k_all) => `(tactic| assumption)
local macro_rules | `(tactic| walk_at "M enter") => `(tactic| (refine wpAny_call ?_; k_dflt (refine' code_def ?k1 ?k2 ?k3 ?k4 ?k5 ?kA ?kF ?kK ?k6 ?k7 ?k8 ?k9 ?kB ?_ ?c2 ?c3 ?c4 ?c5; (case kA => first | assumption | exact rfl); (case kF => assumption); (case kK => assumption); (case k1 => k_asm); (case k2 => k_asm); (case k3 => k_asm); (case k4 => k_asm); (case k5 => k_asm); (case k6 => k_is); (case k7 => k_is); (case k8 => first | omega | (dsimp only; omega)); (case k9 => exact BindsTo.of_eq rfl); (case c5 => decide); (case kB => exact locs rfl); (case c2 => exact rfl); (case c3 => exact rfl); (case c4 => exact rfl); k_whole)))
local macro_rules | `(tactic| walk_at "M enterT") => `(tactic| (refine wpAny_call ?_; k_dflt (refine' code_defT ?k1 ?k2 ?k3 ?k4 ?k5 ?kA ?kF ?kK ?k6 ?k7 ?k8 ?k9 ?kB ?_ ?c2 ?c3 ?c4 ?c5; (case kA => first | assumption | exact rfl); (case kF => assumption); (case kK => assumption); (case k1 => k_asm); (case k2 => k_asm); (case k3 => k_asm); (case k4 => k_asm); (case k5 => k_asm); (case k6 => k_is); (case k7 => k_is); (case k8 => first | omega | (dsimp only; omega)); (case k9 => exact BindsTo.of_eq rfl); (case c5 => decide); (case kB => exact locs rfl); (case c2 => exact rfl); (case c3 => exact rfl); (case c4 => exact rfl); k_whole)))
local macro_rules | `(tactic| walk_at "M open") => `(tactic| (rename Around => A9; rename (Around.frames _ = _) => hA9; rename (Around.handled _ = _) => hh9; revert hA9 hh9; rename (Around.depth _ + _ < _) => hd9; revert hd9; rename (Around.units _ + _ < _) => hu9; revert hu9; cases A9; dsimp only; intro hu9 hd9 hA9 hh9; subst hA9; subst hh9))
local macro_rules | `(tactic| walk_at "M noloop") => `(tactic| ((fail_if_success (with_reducible show wpAny _ _ (exec (Stmt.While _ _ _ _) _) _ _ _)); (fail_if_success (with_reducible show wpAny _ _ (exec (Stmt.For _ _ _ _ _) _) _ _ _)); (fail_if_success (with_reducible show LCg.CompSrc _ _ _ _ _ _ _ _ _ _ _ _ _ _)); (fail_if_success (with_reducible show wpAny _ _ (eval (PySem.Expr.ListComp _ _ _ _) _) _ _ _)); (fail_if_success (with_reducible show wpAny _ _ _ (fun it s₂ => PairAt3 _ _ _ _ _ _ _ _ _ _ it s₂) _ _))))
local macro_rules | `(tactic| walk_at "M go") => `(tactic| repeat' (walk_at "M noloop"; first | (k_unfold; (try dsimp only)) | (k_end; kc_close) | walk1 | (dsimp only; walk1) | (leave1; walk_say "STEP leave1"; (try dsimp only)) | fail "no step"))
local macro_rules | `(tactic| walk_at "And") => `(tactic| ((with_reducible show PySem.Str.length (_ ++ _) ≤ sizeLine ∧ wpAny _ _ (joinParts _ _) _ _ _); refine fs_and (by (simp only [len_mk, show Str.length Str.empty = 0 from rfl] at *); omega) ?_; intro zF hzF))
local macro_rules | `(tactic| walk_at "joinParts") => `(tactic| (first | (with_reducible show wpAny _ _ (joinParts _ []) _ _ _) | (with_reducible refine joinParts_nilE ?_)); refine fs_nil (by (simp only [len_mk, show Str.length Str.empty = 0 from rfl] at *); omega) ?_)
local macro_rules | `(tactic| walk_at "M enterC") => `(tactic| (refine wpAny_call ?_; k_dflt (refine' code_defC ?k1 ?k2 ?k3 ?k4 ?k5 ?kA ?kF ?kK ?k6 ?k7 ?k8 ?k9 ?kB ?kD ?_ ?c2 ?c3 ?c4; (case kA => first | assumption | exact rfl); (case kF => assumption); (case kK => assumption); (case k1 => k_asm); (case k2 => k_asm); (case k3 => k_asm); (case k4 => k_asm); (case k5 => k_asm); (case k6 => k_is); (case k7 => k_is); (case k8 => first | omega | (dsimp only; omega)); (case k9 => exact BindsTo.of_eq rfl); (case kB => exact rfl); (case kD => decide +kernel); (case c2 => exact rfl); (case c3 => exact rfl); (case c4 => exact rfl); k_whole)))
local macro_rules | `(tactic| walk_at "M next") => `(tactic| (k_here; (with_reducible show wpAny _ _ (call (Value.ref 105) [Value.ref _, Value.int _ _]) _ _ _); k_dflt (refine' next_u ?B ?F ?X ?N ?T ?hA ?hf ?hke ?hh ?hd ?hu ?hst ?hos ?U ?hsc ?m0 ?m1 ?_; (case hA => exact rfl); (case hf => exact rfl); (case hke => exact rfl); (case hh => exact rfl); (case B => k_asm); (case F => k_asm); (case X => k_asm); (case N => k_asm); (case T => k_asm); (case hst => assumption); (case hos => assumption); (case U => k_updF); (case hsc => k_mem); (case hd => ktr_room); (case hu => ktr_units); (case m0 => omega); (case m1 => omega)); intro r9 t9 o9 h9 tk9 hr0 hr1 hst9 F9 N9; (try dsimp only at N9)))
theorem meets_rev_new (x : Str) (t : Tok) (hx : x.length ≤ 100) :
    Meets (Builtin.«reversed.__new__» ⟨[.type "reversed", .str x t], []⟩) (fun _ R s => R (.ok (.ret (.ref s.heap.objs.size))) { s with heap := s.heap.push (revS x t ((x.length : Int) - 1)), toks := s.toks + 1 + 1 }) :=
  .of_wp fun prog w A R s h => by
    unfold Builtin.«reversed.__new__»
    refine wpAny_bind (wpAny_of_eq (newClass_reversed _) ?_)
    try dsimp only
    refine wpAny_bind (wpAny_of_eq (a := ()) (by first | rfl | kernel_rfl) ?_)
    refine wpAny_bind (wpAny_of_eq (a := ()) (by first | rfl | kernel_rfl) ?_)
    try dsimp only
    refine wpAny_bind (wpAny_specialOf (typeIs_str s x t) no_rev_str ?_)
    dsimp only
    refine wpAny_bind ?_
    show wpAny _ _ (isInstance (.str x t) (.type "dict") >>= _) _ _ _
    refine wpAny_bind (wpAny_isInstance (typeIs_str s x t) sub_str_dict ?_)
    show wpAny _ _ (specialOf (.str x t) "__getitem__" >>= _) _ _ _
    refine wpAny_bind (wpAny_specialOf (typeIs_str s x t) F.slot_str_getitem.lookup ?_)
    dsimp only
    rw [if_pos (by decide)]
    refine wpAny_pure ?_
    (try dsimp only)
    rw [if_neg (by decide)]
    refine wpAny_bind (len_str (by omega) ?_)
    refine wpAny_bind ?_
    show wpAny _ _ (pure (some (x.length : Int))) _ _ _
    refine wpAny_pure ?_
    (try dsimp only)
    show wpAny _ _ (newObj (.type "reversed") (.fields #[.str x t, rawInt ((x.length : Int) - 1)]) >>= _) _ _ _
    refine wpAny_bind (wpAny_newObj_type ?_)
    exact wpAny_pure ⟨_, rfl, h⟩
theorem call_rev_str {prog : Program} {w : World} {A : Around} {E : Value → Shared → Prop} {s : Shared} {x : Str} {t : Tok} {Q : Value → Shared → Prop} (hx : x.length ≤ 100)
    (h : ∀ h', h'.get? s.heap.objs.size = some (revS x t ((x.length : Int) - 1)) → h'.objs.size = s.heap.objs.size + 1 → (∀ b o, s.heap.get? b = some o → h'.get? b = some o) → Q (.ref s.heap.objs.size) { s with heap := h', toks := s.toks + 1 + 1 }) :
    wpAny (model prog w) A (call (.type "reversed") [.str x t]) Q E s := by
  refine callType_new called_rev (by decide) (typeCall_rev _) (newCall_rev _) (fun obj => F.args_object_init_2 obj _) F.entry_reversed_new
    (meets_rev_new x t hx) ?_
  show _ ∧ _
  exact ⟨⟨_, Heap.get?_push_size _ rfl, rfl⟩, h _ (Heap.get?_push_size _ rfl) (Heap.size_push ..) fun b o e => Heap.get?_push_of_some _ e⟩
end
section
theorem off_Z2 : True := by
  w_top off
  trivial
local macro_rules | `(tactic| walk_at "M none") => `(tactic| fail "none")
local macro_rules | `(tactic| walk_at "M none") => `(tactic| fail "none")
local macro_rules | `(tactic| walk_at "M none") => `(tactic| fail "none")
local macro_rules | `(tactic| walk_at "M none") => `(tactic| fail "none")
local macro_rules | `(tactic| walk_at "M none") => `(tactic| fail "none")
local macro_rules | `(tactic| walk_at "M none") => `(tactic| fail "none")
local macro_rules | `(tactic| walk_at "M none") => `(tactic| fail "none")
local macro_rules | `(tactic| walk_at "M none") => `(tactic| fail "none")
local macro_rules | `(tactic| walk_at "M none") => `(tactic| fail "none")
local macro_rules | `(tactic| walk_at "M none") => `(tactic| fail "none")
local macro_rules | `(tactic| walk_at "M none") => `(tactic| fail "none")
local macro_rules | `(tactic| walk_at "M none") => `(tactic| fail "none")
local macro_rules | `(tactic| walk_at "M none") => `(tactic| fail "none")
local macro_rules | `(tactic| walk_at "M none") => `(tactic| fail "none")
local macro_rules | `(tactic| walk_at "M none") => `(tactic| fail "none")
local macro_rules | `(tactic| walk_at "M none") => `(tactic| fail "none")
local macro_rules | `(tactic| walk_at "M none") => `(tactic| fail "none")
local macro_rules | `(tactic| walk_at "M none") => `(tactic| fail "none")
local macro_rules | `(tactic| walk_at "M none") => `(tactic| fail "none")
local macro_rules | `(tactic| walk_at "M none") => `(tactic| fail "none")
local macro_rules | `(tactic| walk_at "M none") => `(tactic| fail "none")
local macro_rules | `(tactic| walk_at "M none") => `(tactic| fail "none")
local macro_rules | `(tactic| walk_at "M none") => `(tactic| fail "none")
local macro_rules | `(tactic| walk_at "M none") => `(tactic| fail "none")
local macro_rules | `(tactic| walk_at "M none") => `(tactic| fail "none")
local macro_rules | `(tactic| walk_at "M none") => `(tactic| fail "none")
local macro_rules | `(tactic| walk_at "M none") => `(tactic| fail "none")
local macro_rules | `(tactic| walk_at "M none") => `(tactic| fail "none")
local macro_rules | `(tactic| walk_at "M none") => `(tactic| fail "none")
local macro_rules | `(tactic| walk_at "M none") => `(tactic| fail "none")
local macro_rules | `(tactic| walk_at "M none") => `(tactic| fail "none")
local macro_rules | `(tactic| walk_at "M none") => `(tactic| fail "none")
local macro_rules | `(tactic| walk_at "M none") => `(tactic| fail "none")
local macro_rules | `(tactic| walk_at "M none") => `(tactic| fail "none")
local macro_rules | `(tactic| walk_at "M none") => `(tactic| fail "none")
local macro_rules | `(tactic| walk_at "M none") => `(tactic| fail "none")
local macro_rules | `(tactic| walk_at "M none") => `(tactic| fail "none")
local macro_rules | `(tactic| walk_at "M none") => `(tactic| fail "none")
local macro_rules | `(tactic| walk_at "M none") => `(tactic| fail "none")
local macro_rules | `(tactic| walk_at "M none") => `(tactic| fail "none")
local macro_rules | `(tactic| walk_at "M none") => `(tactic| fail "none")
local macro_rules | `(tactic| walk_at "M none") => `(tactic| fail "none")
local macro_rules | `(tactic| walk_at "M none") => `(tactic| fail "none")
local macro_rules | `(tactic| walk_at "M none") => `(tactic| fail "none")
local macro_rules | `(tactic| walk_at "M none") => `(tactic| fail "none")
local macro_rules | `(tactic| walk_at "M none") => `(tactic| fail "none")
local macro_rules | `(tactic| walk_at "M none") => `(tactic| fail "none")
local macro_rules | `(tactic| walk_at "M none") => `(tactic| fail "none")
local macro_rules | `(tactic| walk_at "M none") => `(tactic| fail "none")
local macro_rules | `(tactic| walk_at "M none") => `(tactic| fail "none")
local macro_rules | `(tactic| walk_at "M none") => `(tactic| fail "none")
local macro_rules | `(tactic| walk_at "M none") => `(tactic| fail "none")
local macro_rules | `(tactic| walk_at "M none") => `(tactic| fail "none")
local macro_rules | `(tactic| walk_at "M none") => `(tactic| fail "none")
local macro_rules | `(tactic| walk_at "M none") => `(tactic| fail "none")
local macro_rules | `(tactic| walk_at "M none") => `(tactic| fail "none")
local macro_rules | `(tactic| walk_at "M none") => `(tactic| fail "none")
local macro_rules | `(tactic| walk_at "M none") => `(tactic| fail "none")
local macro_rules | `(tactic| walk_at "M none") => `(tactic| fail "none")
local macro_rules | `(tactic| walk_at "M none") => `(tactic| fail "none")
local macro_rules | `(tactic| k_all) => `(tactic| assumption)
local macro_rules | `(tactic| walk_at "M enter") => `(tactic| (refine wpAny_call ?_; k_dflt (refine' code_def ?k1 ?k2 ?k3 ?k4 ?k5 ?kA ?kF ?kK ?k6 ?k7 ?k8 ?k9 ?kB ?_ ?c2 ?c3 ?c4 ?c5; (case kA => first | assumption | exact rfl); (case kF => assumption); (case kK => assumption); (case k1 => k_asm); (case k2 => k_asm); (case k3 => k_asm); (case k4 => k_asm); (case k5 => k_asm); (case k6 => k_is); (case k7 => k_is); (case k8 => first | omega | (dsimp only; omega)); (case k9 => exact BindsTo.of_eq rfl); (case c5 => decide); (case kB => exact locs rfl); (case c2 => exact rfl); (case c3 => exact rfl); (case c4 => exact rfl); k_whole)))
local macro_rules | `(tactic| walk_at "M enterT") => `(tactic| (refine wpAny_call ?_; k_dflt (refine' code_defT ?k1 ?k2 ?k3 ?k4 ?k5 ?kA ?kF ?kK ?k6 ?k7 ?k8 ?k9 ?kB ?_ ?c2 ?c3 ?c4 ?c5; (case kA => first | assumption | exact rfl); (case kF => assumption); (case kK => assumption); (case k1 => k_asm); (case k2 => k_asm); (case k3 => k_asm); (case k4 => k_asm); (case k5 => k_asm); (case k6 => k_is); (case k7 => k_is); (case k8 => first | omega | (dsimp only; omega)); (case k9 => exact BindsTo.of_eq rfl); (case c5 => decide); (case kB => exact locs rfl); (case c2 => exact rfl); (case c3 => exact rfl); (case c4 => exact rfl); k_whole)))
local macro_rules | `(tactic| walk_at "M open") => `(tactic| (rename Around => A9; rename (Around.frames _ = _) => hA9; rename (Around.handled _ = _) => hh9; revert hA9 hh9; rename (Around.depth _ + _ < _) => hd9; revert hd9; rename (Around.units _ + _ < _) => hu9; revert hu9; cases A9; dsimp only; intro hu9 hd9 hA9 hh9; subst hA9; subst hh9))
local macro_rules | `(tactic| walk_at "M noloop") => `(tactic| ((fail_if_success (with_reducible show wpAny _ _ (exec (Stmt.While _ _ _ _) _) _ _ _)); (fail_if_success (with_reducible show wpAny _ _ (exec (Stmt.For _ _ _ _ _) _) _ _ _)); (fail_if_success (with_reducible show LCg.CompSrc _ _ _ _ _ _ _ _ _ _ _ _ _ _)); (fail_if_success (with_reducible show wpAny _ _ (eval (PySem.Expr.ListComp _ _ _ _) _) _ _ _)); (fail_if_success (with_reducible show wpAny _ _ _ (fun it s₂ => PairAt3 _ _ _ _ _ _ _ _ _ _ it s₂) _ _))))
local macro_rules | `(tactic| walk_at "M go") => `(tactic| repeat' (walk_at "M noloop"; first | (k_unfold; (try dsimp only)) | (k_end; kc_close) | walk1 | (dsimp only; walk1) | (leave1; walk_say "STEP leave1"; (try dsimp only)) | fail "no step"))
local macro_rules | `(tactic| walk_at "And") => `(tactic| ((with_reducible show PySem.Str.length (_ ++ _) ≤ sizeLine ∧ wpAny _ _ (joinParts _ _) _ _ _); refine fs_and (by (simp only [len_mk, show Str.length Str.empty = 0 from rfl] at *); omega) ?_; intro zF hzF))
local macro_rules | `(tactic| walk_at "joinParts") => `(tactic| (first | (with_reducible show wpAny _ _ (joinParts _ []) _ _ _) | (with_reducible refine joinParts_nilE ?_)); refine fs_nil (by (simp only [len_mk, show Str.length Str.empty = 0 from rfl] at *); omega) ?_)
local macro_rules | `(tactic| walk_at "M enterC") => `(tactic| (refine wpAny_call ?_; k_dflt (refine' code_defC ?k1 ?k2 ?k3 ?k4 ?k5 ?kA ?kF ?kK ?k6 ?k7 ?k8 ?k9 ?kB ?kD ?_ ?c2 ?c3 ?c4; (case kA => first | assumption | exact rfl); (case kF => assumption); (case kK => assumption); (case k1 => k_asm); (case k2 => k_asm); (case k3 => k_asm); (case k4 => k_asm); (case k5 => k_asm); (case k6 => k_is); (case k7 => k_is); (case k8 => first | omega | (dsimp only; omega)); (case k9 => exact BindsTo.of_eq rfl); (case kB => exact rfl); (case kD => decide +kernel); (case c2 => exact rfl); (case c3 => exact rfl); (case c4 => exact rfl); k_whole)))
local macro_rules | `(tactic| walk_at "M next") => `(tactic| (k_here; (with_reducible show wpAny _ _ (call (Value.ref 105) [Value.ref _, Value.int _ _]) _ _ _); k_dflt (refine' next_u ?B ?F ?X ?N ?T ?hA ?hf ?hke ?hh ?hd ?hu ?hst ?hos ?U ?hsc ?m0 ?m1 ?_; (case hA => exact rfl); (case hf => exact rfl); (case hke => exact rfl); (case hh => exact rfl); (case B => k_asm); (case F => k_asm); (case X => k_asm); (case N => k_asm); (case T => k_asm); (case hst => assumption); (case hos => assumption); (case U => k_updF); (case hsc => k_mem); (case hd => ktr_room); (case hu => ktr_units); (case m0 => omega); (case m1 => omega)); intro r9 t9 o9 h9 tk9 hr0 hr1 hst9 F9 N9; (try dsimp only at N9)))
theorem seq_at {k n : Nat} (h : k < n) : seqIndex? (k : Int) n = some k := by
  have h1 : ¬ ((k : Int) < 0) := by omega
  simp [seqIndex?, h1, h]
abbrev IsRevS (h : Heap) (a : Addr) (x : Str) (t : Tok) (k : Int) : Prop := h.get? a = some (revS x t k)
section
variable {prog : Program} {w : World} {A : Around} {E : Value → Shared → Prop} {s : Shared}
theorem rev_next_item {it : Addr} {x : Str} {t : Tok} {k c : Nat} {Q : Value → Shared → Prop} (hit : IsRevS s.heap it x t (k : Int)) (hk : k < x.length) (hc : x.cps[k]? = some c) (hx : x.length ≤ 100)
    (hQ : ∀ h' u tk, IsRevS h' it x t ((k : Int) - 1) → Heap.SameBut it s.heap h' → Q (.str ⟨#[c]⟩ u) { s with heap := h', toks := tk }) : wpAny (model prog w) A (Builtin.SmallTypes.nextOf (.ref it)) Q E s := by
  have hT : s.TypeIs (.ref it) "reversed" := ⟨_, hit, rfl⟩
  unfold Builtin.SmallTypes.nextOf
  refine wpAny_bind (wpAny_callSpecial?_slot (name := Str.ofString "__next__") hT slot_rev_next
    (wpAny_call_entry slot_rev_next hT entry_rev_next ?_ (args_rev_next_1 _)))
  show wpAny _ _ (field (.ref it) 0 >>= _) _ _ s
  refine wpAny_bind (wpAny_field hit rfl (x := .str x t) rfl ?_)
  show wpAny _ _ (field (.ref it) 1 >>= _) _ _ s
  refine wpAny_bind (wpAny_field hit rfl (x := .int k 0) rfl ?_)
  show wpAny _ _ (if (k : Int) < 0 then _ else _) _ _ s
  rw [if_neg (by omega)]
  show wpAny _ _ (specialOf (.str x t) "__getitem__" >>= _) _ _ s
  refine wpAny_bind (wpAny_specialOf (typeIs_str s x t) F.slot_str_getitem.lookup ?_)
  show wpAny _ _ (if false = true then _ else _) _ _ s
  rw [if_neg Bool.false_ne_true]
  show wpAny _ _ (mkInt (k : Int) >>= _) _ _ s
  refine wpAny_bind (wpAny_mkInt ?_)
  refine wpAny_bind (wpAny_attempt (getItem_str (i := (k : Int)) (c := c) ?_ ?_ ?_))
  · simp; omega
  · rw [show seqIndex? (k : Int) x.length = some k from seq_at hk]; exact hc
  · show wpAny _ _ (field (.ref it) 1 >>= _) _ _ _
    refine wpAny_bind (wpAny_field hit rfl (x := .int k 0) rfl ?_)
    show wpAny _ _ (setField (.ref it) 1 (rawInt ((k : Int) - 1)) >>= _) _ _ _
    refine wpAny_bind (wpAny_setField_rec hit (by simp) fun h' hi' hs' => wpAny_pure ⟨_, rfl, wpAny_pure (hQ h' _ _ hi' hs')⟩)

theorem rev_next_end {it : Addr} {x : Str} {t : Tok} {Q : Value → Shared → Prop} (hh : A.handled = none) (hit : IsRevS s.heap it x t (-1))
    (hE : ∀ h' e, Heap.ExtBut it s.heap h' → (∃ o, h'.get? e = some o ∧ o.cls = .type "StopIteration") → E (.ref e) { s with heap := h' }) : wpAny (model prog w) A (Builtin.SmallTypes.nextOf (.ref it)) Q E s := by
  have hT : s.TypeIs (.ref it) "reversed" := ⟨_, hit, rfl⟩
  unfold Builtin.SmallTypes.nextOf
  refine wpAny_bind (wpAny_callSpecial?_slot (name := Str.ofString "__next__") hT slot_rev_next
    (wpAny_call_entry slot_rev_next hT entry_rev_next ?_ (args_rev_next_1 _)))
  show wpAny _ _ (field (.ref it) 0 >>= _) _ _ s
  refine wpAny_bind (wpAny_field hit rfl (x := .str x t) rfl ?_)
  show wpAny _ _ (field (.ref it) 1 >>= _) _ _ s
  refine wpAny_bind (wpAny_field hit rfl (x := .int (-1) 0) rfl ?_)
  show wpAny _ _ (if (-1 : Int) < 0 then _ else _) _ _ s
  rw [if_pos (by omega)]
  refine wpAny_bind (wpAny_rule ?_)
  refine wpAny_bind ?_
  show wpAny _ _ (setField (.ref it) 1 (rawInt (-1)) >>= _) _ _ _
  refine wpAny_bind (wpAny_setField_rec hit (by simp) fun h₁ hi₁ hs₁ => ?_)
  refine wpAny_setField_rec hi₁ (by simp) fun h₂ hi₂ hs₂ => ?_
  refine wpAny_bind ?_
  show wpAny _ _ (newExc (.type "StopIteration") [] >>= _) _ _ _
  refine wpAny_bind ?_
  simp only [newExc, newTuple]
  refine wpAny_bind (wpAny_newObj_type ?_ (by size_fits))
  refine wpAny_bind (m := firstArgMember _ _) (wpAny_of_eq (a := Value.none) (by first | rfl | (simp only [firstArgMember]; rfl)) ?_)
  refine wpAny_newObj_type ?_ (by size_fits)
  simp only [raiseNew]
  refine wpAny_bind (wpAny_handled ?_)
  first | rw [show A.in1.handled = none from hh] | rw [hh]
  refine wpAny_bind (wpAny_pure (wpAny_throw ?_))
  exact hE _ _ (((hs₁.extBut.trans hs₂.extBut).push _).push _) ⟨_, Heap.get?_push_size _ rfl, rfl⟩
theorem tup_next_item {it t : Addr} {i : Nat} {items : Array Value} {x : Value} {Q : Value → Shared → Prop} (hit : s.heap.IsTupleIter it t i)
    (ht : s.heap.IsTuple t items) (hx : items[i]? = some x)
    (hQ : ∀ h', h'.IsTupleIter it t (i + 1) → Heap.SameBut it s.heap h' → Q x { s with heap := h' }) :
    wpAny (model prog w) A (Builtin.SmallTypes.nextOf (.ref it)) Q E s := by
  obtain ⟨o, ho, hc, hd⟩ := id hit
  obtain ⟨ol, hol, _, nl, hdl⟩ := ht
  unfold Builtin.SmallTypes.nextOf
  refine wpAny_bind (wpAny_callSpecial?_slot (name := Str.ofString "__next__") hit.typeIs F.slot_tuple_iterator_next
    (wpAny_call_entry F.slot_tuple_iterator_next hit.typeIs F.entry_tuple_iterator_next ?_ (F.args_tuple_iterator_next_1 _)))
  show wpAny _ _ (field (.ref it) 0 >>= _) _ _ s
  refine wpAny_bind (wpAny_field ho hd (x := .ref t) rfl ?_)
  show wpAny _ _ (if (Value.ref t == Value.none) = true then _ else _) _ _ s
  rw [if_neg (show ¬ ((Value.ref t == Value.none) = true) from Bool.false_ne_true)]
  show wpAny _ _ (field (.ref it) 1 >>= _) _ _ s
  refine wpAny_bind (wpAny_field ho hd (x := .int i 0) rfl ?_)
  show wpAny _ _ (seqItems? (.ref t) >>= _) _ _ s
  refine wpAny_bind (wpAny_seqItems hol hdl ?_)
  simp only [Int.toNat_natCast, hx]
  refine wpAny_bind (wpAny_setField ho hd (by simp) (wpAny_pure ⟨x, rfl, wpAny_pure (hQ _ ?_ (Heap.SameBut.update ..))⟩))
  exact ⟨_, Heap.get?_update_self _ ho (Obj.isFreed_of_fields (Obj.data_mapFields hd _)), (Obj.cls_mapFields ..).trans hc, by
    rw [Obj.data_mapFields hd]; simp [rawInt]⟩
end
end
section
theorem off_Z3 : True := by
  w_top off
  trivial
local macro_rules | `(tactic| walk_at "M none") => `(tactic| fail "none")
local macro_rules | `(tactic| walk_at "M none") => `(tactic| fail "none")
local macro_rules | `(tactic| walk_at "M none") => `(tactic| fail "none")
local macro_rules | `(tactic| walk_at "M none") => `(tactic| fail "none")
local macro_rules | `(tactic| walk_at "M none") => `(tactic| fail "none")
local macro_rules | `(tactic| walk_at "M none") => `(tactic| fail "none")
local macro_rules | `(tactic| walk_at "M none") => `(tactic| fail "none")
local macro_rules | `(tactic| walk_at "M none") => `(tactic| fail "none")
local macro_rules | `(tactic| walk_at "M none") => `(tactic| fail "none")
local macro_rules | `(tactic| walk_at "M none") => `(tactic| fail "none")
local macro_rules | `(tactic| walk_at "M none") => `(tactic| fail "none")
local macro_rules | `(tactic| walk_at "M none") => `(tactic| fail "none")
local macro_rules | `(tactic| walk_at "M none") => `(tactic| fail "none")
local macro_rules | `(tactic| walk_at "M none") => `(tactic| fail "none")
local macro_rules | `(tactic| walk_at "M none") => `(tactic| fail "none")
local macro_rules | `(tactic| walk_at "M none") => `(tactic| fail "none")
local macro_rules | `(tactic| walk_at "M none") => `(tactic| fail "none")
local macro_rules | `(tactic| walk_at "M none") => `(tactic| fail "none")
local macro_rules | `(tactic| walk_at "M none") => `(tactic| fail "none")
local macro_rules | `(tactic| walk_at "M none") => `(tactic| fail "none")
local macro_rules | `(tactic| walk_at "M none") => `(tactic| fail "none")
local macro_rules | `(tactic| walk_at "M none") => `(tactic| fail "none")
local macro_rules | `(tactic| walk_at "M none") => `(tactic| fail "none")
local macro_rules | `(tactic| walk_at "M none") => `(tactic| fail "none")
local macro_rules | `(tactic| walk_at "M none") => `(tactic| fail "none")
local macro_rules | `(tactic| walk_at "M none") => `(tactic| fail "none")
local macro_rules | `(tactic| walk_at "M none") => `(tactic| fail "none")
local macro_rules | `(tactic| walk_at "M none") => `(tactic| fail "none")
local macro_rules | `(tactic| walk_at "M none") => `(tactic| fail "none")
local macro_rules | `(tactic| walk_at "M none") => `(tactic| fail "none")
local macro_rules | `(tactic| walk_at "M none") => `(tactic| fail "none")
local macro_rules | `(tactic| walk_at "M none") => `(tactic| fail "none")
local macro_rules | `(tactic| walk_at "M none") => `(tactic| fail "none")
local macro_rules | `(tactic| walk_at "M none") => `(tactic| fail "none")
local macro_rules | `(tactic| walk_at "M none") => `(tactic| fail "none")
local macro_rules | `(tactic| walk_at "M none") => `(tactic| fail "none")
local macro_rules | `(tactic| walk_at "M none") => `(tactic| fail "none")
local macro_rules | `(tactic| walk_at "M none") => `(tactic| fail "none")
local macro_rules | `(tactic| walk_at "M none") => `(tactic| fail "none")
local macro_rules | `(tactic| walk_at "M none") => `(tactic| fail "none")
local macro_rules | `(tactic| walk_at "M none") => `(tactic| fail "none")
local macro_rules | `(tactic| walk_at "M none") => `(tactic| fail "none")
local macro_rules | `(tactic| walk_at "M none") => `(tactic| fail "none")
local macro_rules | `(tactic| walk_at "M none") => `(tactic| fail "none")
local macro_rules | `(tactic| walk_at "M none") => `(tactic| fail "none")
local macro_rules | `(tactic| walk_at "M none") => `(tactic| fail "none")
local macro_rules | `(tactic| walk_at "M none") => `(tactic| fail "none")
local macro_rules | `(tactic| walk_at "M none") => `(tactic| fail "none")
local macro_rules | `(tactic| walk_at "M none") => `(tactic| fail "none")
local macro_rules | `(tactic| walk_at "M none") => `(tactic| fail "none")
local macro_rules | `(tactic| walk_at "M none") => `(tactic| fail "none")
local macro_rules | `(tactic| walk_at "M none") => `(tactic| fail "none")
local macro_rules | `(tactic| walk_at "M none") => `(tactic| fail "none")
local macro_rules | `(tactic| walk_at "M none") => `(tactic| fail "none")
local macro_rules | `(tactic| walk_at "M none") => `(tactic| fail "none")
local macro_rules | `(tactic| walk_at "M none") => `(tactic| fail "none")
local macro_rules | `(tactic| walk_at "M none") => `(tactic| fail "none")
local macro_rules | `(tactic| walk_at "M none") => `(tactic| fail "none")
local macro_rules | `(tactic| walk_at "M none") => `(tactic| fail "none")
local macro_rules | `(tactic| walk_at "M none") => `(tactic| fail "none")
local macro_rules | `(tactic| walk_at "M none") => `(tactic| fail "none")
local macro_rules | `(tactic| walk_at "M none") => `(tactic| fail "none")
local macro_rules | `(tactic| walk_at "M none") => `(tactic| fail "none")
local macro_rules | `(tactic| walk_at "M none") => `(tactic| fail "none")
local macro_rules | `(tactic| walk_at "M none") => `(tactic| fail "none")
local macro_rules | `(tactic| walk_at "M none") => `(tactic| fail "none")
local macro_rules | `(tactic| walk_at "M none") => `(tactic| fail "none")
local macro_rules | `(tactic| walk_at "M none") => `(tactic| fail "none")
local macro_rules | `(tactic| walk_at "M none") => `(tactic| fail "none")
local macro_rules | `(tactic| walk_at "M none") => `(tactic| fail "none")
local macro_rules | `(tactic| walk_at "M none") => `(tactic| fail "none")
local macro_rules | `(tactic| walk_at "M none") => `(tactic| fail "none")
local macro_rules | `(tactic| walk_at "M none") => `(tactic| fail "none")
local macro_rules | `(tactic| walk_at "M none") => `(tactic| fail "none")
local macro_rules | `(tactic| walk_at "M none") => `(tactic| fail "none")
local macro_rules | `(tactic| walk_at "M none") => `(tactic| fail "none")
local macro_rules | `(tactic| walk_at "M none") => `(tactic| fail "none")
local macro_rules | `(tactic| walk_at "M none") => `(tactic| fail "none")
local macro_rules | `(tactic| walk_at "M none") => `(tactic| fail "none")
local macro_rules | `(tactic| walk_at "M none") => `(tactic| fail "none")
local macro_rules | `(tactic| walk_at "M none") => `(tactic| fail "none")
local macro_rules | `(tactic| walk_at "M none") => `(tactic| fail "none")
local macro_rules | `(tactic| walk_at "M none") => `(tactic| fail "none")
local macro_rules | `(tactic| walk_at "M none") => `(tactic| fail "none")
local macro_rules | `(tactic| walk_at "M none") => `(tactic| fail "none")
local macro_rules | `(tactic| walk_at "M none") => `(tactic| fail "none")
local macro_rules | `(tactic| walk_at "M none") => `(tactic| fail "none")
local macro_rules | `(tactic| walk_at "M none") => `(tactic| fail "none")
local macro_rules | `(tactic| walk_at "M none") => `(tactic| fail "none")
local macro_rules | `(tactic| walk_at "M none") => `(tactic| fail "none")
local macro_rules | `(tactic| k_all) => `(tactic| assumption)
local macro_rules | `(tactic| walk_at "M enter") => `(tactic| (refine wpAny_call ?_; k_dflt (refine' code_def ?k1 ?k2 ?k3 ?k4 ?k5 ?kA ?kF ?kK ?k6 ?k7 ?k8 ?k9 ?kB ?_ ?c2 ?c3 ?c4 ?c5; (case kA => first | assumption | exact rfl); (case kF => assumption); (case kK => assumption); (case k1 => k_asm); (case k2 => k_asm); (case k3 => k_asm); (case k4 => k_asm); (case k5 => k_asm); (case k6 => k_is); (case k7 => k_is); (case k8 => first | omega | (dsimp only; omega)); (case k9 => exact BindsTo.of_eq rfl); (case c5 => decide); (case kB => exact locs rfl); (case c2 => exact rfl); (case c3 => exact rfl); (case c4 => exact rfl); k_whole)))
local macro_rules | `(tactic| walk_at "M enterT") => `(tactic| (refine wpAny_call ?_; k_dflt (refine' code_defT ?k1 ?k2 ?k3 ?k4 ?k5 ?kA ?kF ?kK ?k6 ?k7 ?k8 ?k9 ?kB ?_ ?c2 ?c3 ?c4 ?c5; (case kA => first | assumption | exact rfl); (case kF => assumption); (case kK => assumption); (case k1 => k_asm); (case k2 => k_asm); (case k3 => k_asm); (case k4 => k_asm); (case k5 => k_asm); (case k6 => k_is); (case k7 => k_is); (case k8 => first | omega | (dsimp only; omega)); (case k9 => exact BindsTo.of_eq rfl); (case c5 => decide); (case kB => exact locs rfl); (case c2 => exact rfl); (case c3 => exact rfl); (case c4 => exact rfl); k_whole)))
local macro_rules | `(tactic| walk_at "M open") => `(tactic| (rename Around => A9; rename (Around.frames _ = _) => hA9; rename (Around.handled _ = _) => hh9; revert hA9 hh9; rename (Around.depth _ + _ < _) => hd9; revert hd9; rename (Around.units _ + _ < _) => hu9; revert hu9; cases A9; dsimp only; intro hu9 hd9 hA9 hh9; subst hA9; subst hh9))
local macro_rules | `(tactic| walk_at "M noloop") => `(tactic| ((fail_if_success (with_reducible show wpAny _ _ (exec (Stmt.While _ _ _ _) _) _ _ _)); (fail_if_success (with_reducible show wpAny _ _ (exec (Stmt.For _ _ _ _ _) _) _ _ _)); (fail_if_success (with_reducible show LCg.CompSrc _ _ _ _ _ _ _ _ _ _ _ _ _ _)); (fail_if_success (with_reducible show wpAny _ _ (eval (PySem.Expr.ListComp _ _ _ _) _) _ _ _)); (fail_if_success (with_reducible show wpAny _ _ _ (fun it s₂ => PairAt3 _ _ _ _ _ _ _ _ _ _ it s₂) _ _))))
local macro_rules | `(tactic| walk_at "M go") => `(tactic| repeat' (walk_at "M noloop"; first | (k_unfold; (try dsimp only)) | (k_end; kc_close) | walk1 | (dsimp only; walk1) | (leave1; walk_say "STEP leave1"; (try dsimp only)) | fail "no step"))
local macro_rules | `(tactic| walk_at "And") => `(tactic| ((with_reducible show PySem.Str.length (_ ++ _) ≤ sizeLine ∧ wpAny _ _ (joinParts _ _) _ _ _); refine fs_and (by (simp only [len_mk, show Str.length Str.empty = 0 from rfl] at *); omega) ?_; intro zF hzF))
local macro_rules | `(tactic| walk_at "joinParts") => `(tactic| (first | (with_reducible show wpAny _ _ (joinParts _ []) _ _ _) | (with_reducible refine joinParts_nilE ?_)); refine fs_nil (by (simp only [len_mk, show Str.length Str.empty = 0 from rfl] at *); omega) ?_)
local macro_rules | `(tactic| walk_at "M enterC") => `(tactic| (refine wpAny_call ?_; k_dflt (refine' code_defC ?k1 ?k2 ?k3 ?k4 ?k5 ?kA ?kF ?kK ?k6 ?k7 ?k8 ?k9 ?kB ?kD ?_ ?c2 ?c3 ?c4; (case kA => first | assumption | exact rfl); (case kF => assumption); (case kK => assumption); (case k1 => k_asm); (case k2 => k_asm); (case k3 => k_asm); (case k4 => k_asm); (case k5 => k_asm); (case k6 => k_is); (case k7 => k_is); (case k8 => first | omega | (dsimp only; omega)); (case k9 => exact BindsTo.of_eq rfl); (case kB => exact rfl); (case kD => decide +kernel); (case c2 => exact rfl); (case c3 => exact rfl); (case c4 => exact rfl); k_whole)))
local macro_rules | `(tactic| walk_at "M next") => `(tactic| (k_here; (with_reducible show wpAny _ _ (call (Value.ref 105) [Value.ref _, Value.int _ _]) _ _ _); k_dflt (refine' next_u ?B ?F ?X ?N ?T ?hA ?hf ?hke ?hh ?hd ?hu ?hst ?hos ?U ?hsc ?m0 ?m1 ?_; (case hA => exact rfl); (case hf => exact rfl); (case hke => exact rfl); (case hh => exact rfl); (case B => k_asm); (case F => k_asm); (case X => k_asm); (case N => k_asm); (case T => k_asm); (case hst => assumption); (case hos => assumption); (case U => k_updF); (case hsc => k_mem); (case hd => ktr_room); (case hu => ktr_units); (case m0 => omega); (case m1 => omega)); intro r9 t9 o9 h9 tk9 hr0 hr1 hst9 F9 N9; (try dsimp only at N9)))
section
variable {prog : Program} {w : World} {A : Around} {E : Value → Shared → Prop} {s : Shared}
theorem zr_next_item {z TI TO i1 i2 l2 : Addr} {x : Str} {tx : Tok} {k1 k2 c : Nat} {ys : Array Value} {y a b : Value} {Q : Value → Shared → Prop}
    (d1 : TI ≠ z) (d2 : TO ≠ z) (d3 : i1 ≠ z) (d4 : i2 ≠ z) (d6 : TO ≠ i1) (d7 : TO ≠ i2) (d8 : i1 ≠ i2) (d9 : l2 ≠ z) (d10 : l2 ≠ TO) (d11 : l2 ≠ i1)
    (hz : IsZip s.heap z TI TO .none) (hTI : IsPair s.heap TI (.ref i1) (.ref i2)) (hTO : IsPair s.heap TO a b)
    (h1 : IsRevS s.heap i1 x tx (k1 : Int)) (h2 : s.heap.IsTupleIter i2 l2 k2) (hl2 : s.heap.IsTuple l2 ys) (hk : k1 < x.length) (hc : x.cps[k1]? = some c) (hx : x.length ≤ 100) (hy : ys[k2]? = some y)
    (hQ : ∀ h' u tk, IsZip h' z TI TO (rawInt s.heap.objs.size) → IsPair h' TO (.str ⟨#[c]⟩ u) y → IsRevS h' i1 x tx ((k1 : Int) - 1) → h'.IsTupleIter i2 l2 (k2 + 1) → IsPair h' s.heap.objs.size (.str ⟨#[c]⟩ u) y → h'.objs.size = s.heap.objs.size + 1 →
      (∀ c o, c ≠ z → c ≠ TO → c ≠ i1 → c ≠ i2 → s.heap.get? c = some o → h'.get? c = some o) → Q (.ref s.heap.objs.size) { s with heap := h', toks := tk }) :
    wpAny (model prog w) A (Builtin.«zip.__next__» ⟨[.ref z], []⟩) (fun fin s' => ∃ v, fin = .done (.ret v) ∧ Q v s') E s := by
  show wpAny _ _ (field (.ref z) 2 >>= _) _ _ _
  refine wpAny_bind (wpAny_field hz rfl (x := .bool false) rfl ?_)
  show wpAny _ _ (field (.ref z) 3 >>= _) _ _ _
  refine wpAny_bind (wpAny_field hz rfl (x := .ref TI) rfl ?_)
  refine wpAny_bind (wpAny_seqItems hTI rfl ?_)
  show wpAny _ _ (Builtin.SmallTypes.ownedTupleIsFree (.ref z) >>= _) _ _ _
  refine wpAny_bind ?_
  unfold Builtin.SmallTypes.ownedTupleIsFree
  refine wpAny_bind (wpAny_field hz rfl (x := .none) rfl (wpAny_pure ?_))
  simp only [if_true]
  refine wpAny_bind (wpAny_rule ?_)
  refine wpAny_bind (wpAny_field hz rfl (x := .ref TO) rfl ?_)
  refine wpAny_bind (wpAny_setField_rec hz (by simp) fun h₁ hz₁ hs₁ => ?_)
  replace hz₁ : IsZip h₁ z TI TO .ellipsis := hz₁
  refine wpAny_bind ?_
  simp only [List.zipIdx_cons, List.zipIdx_nil, List.forIn_cons, List.forIn_nil]
  refine wpAny_bind (wpAny_bind (wpAny_onRaise ?_))
  show wpAny _ _ (Builtin.SmallTypes.nextOf (.ref i1) >>= _) _ _ _
  refine wpAny_bind (rev_next_item (hs₁.extBut _ _ d3 h1) hk hc hx fun h₂ u tk h1₂ hs₂ => wpAny_pure ?_)
  have hTO₂ : IsPair h₂ TO a b := hs₂.extBut _ _ d6 (hs₁.extBut _ _ d2 hTO)
  refine wpAny_bind (wpAny_seqItems hTO₂ rfl ?_)
  refine wpAny_bind (wpAny_updateSeq_pair hTO₂ fun h₃ hTO₃ hs₃ => ?_)
  replace hTO₃ : IsPair h₃ TO (.str ⟨#[c]⟩ u) b := hTO₃
  refine wpAny_bind (wpAny_letGo (wpAny_pure ?_))
  refine wpAny_bind (wpAny_bind (wpAny_onRaise ?_))
  show wpAny _ _ (Builtin.SmallTypes.nextOf (.ref i2) >>= _) _ _ _
  refine wpAny_bind (tup_next_item (((h2.extBut hs₁.extBut d4).extBut hs₂.extBut d8.symm).extBut hs₃.extBut d7.symm)
    (((hl2.extBut hs₁.extBut d9).extBut hs₂.extBut d11).extBut hs₃.extBut d10) hy fun h₄ h2₄ hs₄ => wpAny_pure ?_)
  have hTO₄ : IsPair h₄ TO (.str ⟨#[c]⟩ u) b := hs₄.extBut _ _ d7 hTO₃
  refine wpAny_bind (wpAny_seqItems hTO₄ rfl ?_)
  refine wpAny_bind (wpAny_updateSeq_pair hTO₄ fun h₅ hTO₅ hs₅ => ?_)
  replace hTO₅ : IsPair h₅ TO (.str ⟨#[c]⟩ u) y := hTO₅
  refine wpAny_bind (wpAny_letGo (wpAny_pure (wpAny_pure ?_)))
  refine wpAny_bind (wpAny_seqItems hTO₅ rfl ?_)
  refine wpAny_bind (wpAny_newTuple ?_)
  have hsz : h₅.objs.size = s.heap.objs.size := by rw [hs₅.1, hs₄.1, hs₃.1, hs₂.1, hs₁.1]
  have hz₅ : IsZip h₅ z TI TO .ellipsis := hs₅.extBut _ _ d2.symm (hs₄.extBut _ _ d4.symm (hs₃.extBut _ _ d2.symm (hs₂.extBut _ _ d3.symm hz₁)))
  have hk₅ : ∀ c o, c ≠ z → c ≠ TO → c ≠ i1 → c ≠ i2 → s.heap.get? c = some o → h₅.get? c = some o := fun c o c1 c2 c3 c4 e =>
    hs₅.extBut _ _ c2 (hs₄.extBut _ _ c4 (hs₃.extBut _ _ c2 (hs₂.extBut _ _ c3 (hs₁.extBut _ _ c1 e))))
  have h1₅ : IsRevS h₅ i1 x tx ((k1 : Int) - 1) := hs₅.extBut _ _ d6.symm (hs₄.extBut _ _ d8 (hs₃.extBut _ _ d6.symm h1₂))
  have h2₅ : h₅.IsTupleIter i2 l2 (k2 + 1) := h2₄.extBut hs₅.extBut d7.symm
  have hzlt : z < h₅.objs.size := Heap.lt_size hz₅
  show wpAny _ _ (Builtin.SmallTypes.ownedTupleHandOut (.ref z) (.ref h₅.objs.size) >>= _) _ _ _
  refine wpAny_bind ?_
  unfold Builtin.SmallTypes.ownedTupleHandOut
  have hz₆ : IsZip (h₅.push { cls := .type "tuple", data := .seq #[.str ⟨#[c]⟩ u, y] }) z TI TO .ellipsis := Heap.get?_push_of_some _ hz₅
  refine wpAny_bind (wpAny_setField_rec hz₆ (by simp) fun h₇ hz₇ hs₇ => ?_)
  replace hz₇ : IsZip h₇ z TI TO (rawInt h₅.objs.size) := hz₇
  refine wpAny_setField_rec hz₇ (by simp) fun h₈ hz₈ hs₈ => ?_
  replace hz₈ : IsZip h₈ z TI TO (rawInt h₅.objs.size) := hz₈
  have up : ∀ c o, c ≠ z → h₅.get? c = some o → h₈.get? c = some o := fun c o c1 e => hs₈.extBut _ _ c1 (hs₇.extBut _ _ c1 (Heap.get?_push_of_some _ e))
  have hT₈ : IsPair h₈ h₅.objs.size (.str ⟨#[c]⟩ u) y := hs₈.extBut _ _ (Nat.ne_of_gt hzlt) (hs₇.extBut _ _ (Nat.ne_of_gt hzlt) (Heap.get?_push_size _ rfl))
  have hz8 : h₈.objs.size = h₅.objs.size + 1 := by rw [hs₈.1, hs₇.1, Heap.size_push]
  rw [hsz] at hz₈ hT₈ hz8
  refine wpAny_pure ⟨_, rfl, ?_⟩
  show Q (.ref h₅.objs.size) _
  rw [hsz]
  exact hQ h₈ u _ hz₈ (up _ _ d2 hTO₅) (up _ _ d3 h1₅) (by obtain ⟨o, e, r⟩ := h2₅; exact ⟨o, up _ o d4 e, r⟩) hT₈ hz8 fun c o c1 c2 c3 c4 e => up c o c1 (hk₅ c o c1 c2 c3 c4 e)
theorem zr_next_end {z TI TO i1 i2 : Addr} {x : Str} {tx : Tok} {a b : Value} {Q : Fin → Shared → Prop} (hh : A.handled = none)
    (d1 : TI ≠ z) (d2 : TO ≠ z) (d3 : i1 ≠ z)
    (hz : IsZip s.heap z TI TO .none) (hTI : IsPair s.heap TI (.ref i1) (.ref i2)) (hTO : IsPair s.heap TO a b) (h1 : IsRevS s.heap i1 x tx (-1))
    (hE : ∀ h' e, (∀ c o, c ≠ z → c ≠ i1 → s.heap.get? c = some o → h'.get? c = some o) → (∃ o, h'.get? e = some o ∧ o.cls = .type "StopIteration") → E (.ref e) { s with heap := h' }) :
    wpAny (model prog w) A (Builtin.«zip.__next__» ⟨[.ref z], []⟩) Q E s := by
  show wpAny _ _ (field (.ref z) 2 >>= _) _ _ _
  refine wpAny_bind (wpAny_field hz rfl (x := .bool false) rfl ?_)
  show wpAny _ _ (field (.ref z) 3 >>= _) _ _ _
  refine wpAny_bind (wpAny_field hz rfl (x := .ref TI) rfl ?_)
  refine wpAny_bind (wpAny_seqItems hTI rfl ?_)
  show wpAny _ _ (Builtin.SmallTypes.ownedTupleIsFree (.ref z) >>= _) _ _ _
  refine wpAny_bind ?_
  unfold Builtin.SmallTypes.ownedTupleIsFree
  refine wpAny_bind (wpAny_field hz rfl (x := .none) rfl (wpAny_pure ?_))
  simp only [if_true]
  refine wpAny_bind (wpAny_rule ?_)
  refine wpAny_bind (wpAny_field hz rfl (x := .ref TO) rfl ?_)
  refine wpAny_bind (wpAny_setField_rec hz (by simp) fun h₁ hz₁ hs₁ => ?_)
  replace hz₁ : IsZip h₁ z TI TO .ellipsis := hz₁
  refine wpAny_bind ?_
  simp only [List.zipIdx_cons, List.zipIdx_nil, List.forIn_cons, List.forIn_nil]
  refine wpAny_bind (wpAny_bind (wpAny_onRaise ?_))
  show wpAny _ _ (Builtin.SmallTypes.nextOf (.ref i1) >>= _) _ _ _
  refine wpAny_bind (rev_next_end hh (hs₁.extBut _ _ d3 h1) fun h₂ e hs₂ he => ?_)
  obtain ⟨oe, hoe, hce⟩ := he
  have hz₂ : IsZip h₂ z TI TO .ellipsis := hs₂ _ _ d3.symm hz₁
  have hez : e ≠ z := fun x => by subst x; rw [hz₂] at hoe; cases hoe; simp at hce
  refine wpAny_setField_rec hz₂ (by simp) fun h₃ _ hs₃ => hE h₃ e (fun c o c1 c3 x => hs₃.extBut _ _ c1 (hs₂ _ _ c3 (hs₁.extBut _ _ c1 x))) ⟨oe, hs₃.extBut _ _ hez hoe, hce⟩
end
end
section
theorem off_Z4 : True := by
  w_top off
  trivial
local macro_rules | `(tactic| k_all) => `(tactic| assumption)
local macro_rules | `(tactic| walk_at "M enter") => `(tactic| (refine wpAny_call ?_; k_dflt (refine' code_def ?k1 ?k2 ?k3 ?k4 ?k5 ?kA ?kF ?kK ?k6 ?k7 ?k8 ?k9 ?kB ?_ ?c2 ?c3 ?c4 ?c5; (case kA => first | assumption | exact rfl); (case kF => assumption); (case kK => assumption); (case k1 => k_asm); (case k2 => k_asm); (case k3 => k_asm); (case k4 => k_asm); (case k5 => k_asm); (case k6 => k_is); (case k7 => k_is); (case k8 => first | omega | (dsimp only; omega)); (case k9 => exact BindsTo.of_eq rfl); (case c5 => decide); (case kB => exact locs rfl); (case c2 => exact rfl); (case c3 => exact rfl); (case c4 => exact rfl); k_whole)))
local macro_rules | `(tactic| walk_at "M enterT") => `(tactic| (refine wpAny_call ?_; k_dflt (refine' code_defT ?k1 ?k2 ?k3 ?k4 ?k5 ?kA ?kF ?kK ?k6 ?k7 ?k8 ?k9 ?kB ?_ ?c2 ?c3 ?c4 ?c5; (case kA => first | assumption | exact rfl); (case kF => assumption); (case kK => assumption); (case k1 => k_asm); (case k2 => k_asm); (case k3 => k_asm); (case k4 => k_asm); (case k5 => k_asm); (case k6 => k_is); (case k7 => k_is); (case k8 => first | omega | (dsimp only; omega)); (case k9 => exact BindsTo.of_eq rfl); (case c5 => decide); (case kB => exact locs rfl); (case c2 => exact rfl); (case c3 => exact rfl); (case c4 => exact rfl); k_whole)))
local macro_rules | `(tactic| walk_at "M open") => `(tactic| (rename Around => A9; rename (Around.frames _ = _) => hA9; rename (Around.handled _ = _) => hh9; revert hA9 hh9; rename (Around.depth _ + _ < _) => hd9; revert hd9; rename (Around.units _ + _ < _) => hu9; revert hu9; cases A9; dsimp only; intro hu9 hd9 hA9 hh9; subst hA9; subst hh9))
local macro_rules | `(tactic| walk_at "M noloop") => `(tactic| ((fail_if_success (with_reducible show wpAny _ _ (exec (Stmt.While _ _ _ _) _) _ _ _)); (fail_if_success (with_reducible show wpAny _ _ (exec (Stmt.For _ _ _ _ _) _) _ _ _)); (fail_if_success (with_reducible show LCg.CompSrc _ _ _ _ _ _ _ _ _ _ _ _ _ _)); (fail_if_success (with_reducible show wpAny _ _ (eval (PySem.Expr.ListComp _ _ _ _) _) _ _ _)); (fail_if_success (with_reducible show wpAny _ _ _ (fun it s₂ => PairAt3 _ _ _ _ _ _ _ _ _ _ it s₂) _ _))))
local macro_rules | `(tactic| walk_at "M go") => `(tactic| repeat' (walk_at "M noloop"; first | (k_unfold; (try dsimp only)) | (k_end; kc_close) | walk1 | (dsimp only; walk1) | (leave1; walk_say "STEP leave1"; (try dsimp only)) | fail "no step"))
local macro_rules | `(tactic| walk_at "And") => `(tactic| ((with_reducible show PySem.Str.length (_ ++ _) ≤ sizeLine ∧ wpAny _ _ (joinParts _ _) _ _ _); refine fs_and (by (simp only [len_mk, show Str.length Str.empty = 0 from rfl] at *); omega) ?_; intro zF hzF))
local macro_rules | `(tactic| walk_at "joinParts") => `(tactic| (first | (with_reducible show wpAny _ _ (joinParts _ []) _ _ _) | (with_reducible refine joinParts_nilE ?_)); refine fs_nil (by (simp only [len_mk, show Str.length Str.empty = 0 from rfl] at *); omega) ?_)
local macro_rules | `(tactic| walk_at "M enterC") => `(tactic| (refine wpAny_call ?_; k_dflt (refine' code_defC ?k1 ?k2 ?k3 ?k4 ?k5 ?kA ?kF ?kK ?k6 ?k7 ?k8 ?k9 ?kB ?kD ?_ ?c2 ?c3 ?c4; (case kA => first | assumption | exact rfl); (case kF => assumption); (case kK => assumption); (case k1 => k_asm); (case k2 => k_asm); (case k3 => k_asm); (case k4 => k_asm); (case k5 => k_asm); (case k6 => k_is); (case k7 => k_is); (case k8 => first | omega | (dsimp only; omega)); (case k9 => exact BindsTo.of_eq rfl); (case kB => exact rfl); (case kD => decide +kernel); (case c2 => exact rfl); (case c3 => exact rfl); (case c4 => exact rfl); k_whole)))
local macro_rules | `(tactic| walk_at "M next") => `(tactic| (k_here; (with_reducible show wpAny _ _ (call (Value.ref 105) [Value.ref _, Value.int _ _]) _ _ _); k_dflt (refine' next_u ?B ?F ?X ?N ?T ?hA ?hf ?hke ?hh ?hd ?hu ?hst ?hos ?U ?hsc ?m0 ?m1 ?_; (case hA => exact rfl); (case hf => exact rfl); (case hke => exact rfl); (case hh => exact rfl); (case B => k_asm); (case F => k_asm); (case X => k_asm); (case N => k_asm); (case T => k_asm); (case hst => assumption); (case hos => assumption); (case U => k_updF); (case hsc => k_mem); (case hd => ktr_room); (case hu => ktr_units); (case m0 => omega); (case m1 => omega)); intro r9 t9 o9 h9 tk9 hr0 hr1 hst9 F9 N9; (try dsimp only at N9)))
section
variable {prog : Program} {w : World} {A : Around} {E : Value → Shared → Prop} {s : Shared}
theorem wpAny_pyNext_zr_item {z TI TO i1 i2 l2 : Addr} {x : Str} {tx : Tok} {k1 k2 c : Nat} {ys : Array Value} {y a b : Value} {Q : Option Value → Shared → Prop}
    (d1 : TI ≠ z) (d2 : TO ≠ z) (d3 : i1 ≠ z) (d4 : i2 ≠ z) (d6 : TO ≠ i1) (d7 : TO ≠ i2) (d8 : i1 ≠ i2) (d9 : l2 ≠ z) (d10 : l2 ≠ TO) (d11 : l2 ≠ i1)
    (hz : IsZip s.heap z TI TO .none) (hTI : IsPair s.heap TI (.ref i1) (.ref i2)) (hTO : IsPair s.heap TO a b)
    (h1 : IsRevS s.heap i1 x tx (k1 : Int)) (h2 : s.heap.IsTupleIter i2 l2 k2) (hl2 : s.heap.IsTuple l2 ys) (hk : k1 < x.length) (hc : x.cps[k1]? = some c) (hx : x.length ≤ 100) (hy : ys[k2]? = some y)
    (hQ : ∀ h' u tk, IsZip h' z TI TO (rawInt s.heap.objs.size) → IsPair h' TO (.str ⟨#[c]⟩ u) y → IsRevS h' i1 x tx ((k1 : Int) - 1) → h'.IsTupleIter i2 l2 (k2 + 1) → IsPair h' s.heap.objs.size (.str ⟨#[c]⟩ u) y → h'.objs.size = s.heap.objs.size + 1 →
      (∀ c o, c ≠ z → c ≠ TO → c ≠ i1 → c ≠ i2 → s.heap.get? c = some o → h'.get? c = some o) → Q (some (.ref s.heap.objs.size)) { s with heap := h', toks := tk }) :
    wpAny (model prog w) A (pyNext (.ref z)) Q E s := by
  have hT : s.TypeIs (.ref z) "zip" := ⟨_, hz, rfl⟩
  unfold pyNext
  exact wpAny_bind (wpAny_attempt (wpAny_callSpecial?_slot (name := Str.ofString "__next__") hT F.slot_zip_next
    (wpAny_call_entry F.slot_zip_next hT F.entry_zip_next
      (zr_next_item d1 d2 d3 d4 d6 d7 d8 d9 d10 d11 hz hTI hTO h1 h2 hl2 hk hc hx hy fun h' u tk a1 a2 a3 a4 a5 a6 a7 => wpAny_pure (hQ h' u tk a1 a2 a3 a4 a5 a6 a7)) (F.args_zip_next_1 _))))
theorem wpAny_pyNext_zr_end {z TI TO i1 i2 : Addr} {x : Str} {tx : Tok} {a b : Value} {Q : Option Value → Shared → Prop} (hh : A.handled = none)
    (d1 : TI ≠ z) (d2 : TO ≠ z) (d3 : i1 ≠ z)
    (hz : IsZip s.heap z TI TO .none) (hTI : IsPair s.heap TI (.ref i1) (.ref i2)) (hTO : IsPair s.heap TO a b) (h1 : IsRevS s.heap i1 x tx (-1))
    (hQ : ∀ h', (∀ c o, c ≠ z → c ≠ i1 → s.heap.get? c = some o → h'.get? c = some o) → Q none { s with heap := h' }) : wpAny (model prog w) A (pyNext (.ref z)) Q E s := by
  have hT : s.TypeIs (.ref z) "zip" := ⟨_, hz, rfl⟩
  unfold pyNext
  refine wpAny_bind (wpAny_attempt (wpAny_callSpecial?_slot (name := Str.ofString "__next__") hT F.slot_zip_next
    (wpAny_call_entry F.slot_zip_next hT F.entry_zip_next (zr_next_end hh d1 d2 d3 hz hTI hTO h1 fun h' e hk he => ?_) (F.args_zip_next_1 _))))
  obtain ⟨o, ho, hc⟩ := he
  refine wpAny_bind (wpAny_isInstance (T := "StopIteration") (b := true) ⟨o, ho, hc⟩ isSubtype_stop ?_)
  exact wpAny_pure (hQ _ hk)
theorem wpAny_pyIter_rev {i1 : Addr} {x : Str} {tx : Tok} {k : Int} {Q : Value → Shared → Prop} (h1 : IsRevS s.heap i1 x tx k) (h : Q (.ref i1) s) : wpAny (model prog w) A (pyIter (.ref i1)) Q E s := by
  have hT : s.TypeIs (.ref i1) "reversed" := ⟨_, h1, rfl⟩
  refine wpAny_pyIter_slot hT slot_rev_iter (wpAny_call_entry slot_rev_iter hT entry_rev_iter ?_ (args_rev_iter_1 _))
  show wpAny _ _ (ret (.ref i1)) _ _ s
  exact wpAny_pure ⟨_, rfl, "reversed", _, hT, slot_rev_next.lookup, h⟩
end
abbrev zrH1 (h : Heap) (l2 : Addr) : Heap := h.push { cls := .type "tuple_iterator", data := .fields #[.ref l2, .int 0 0] }
abbrev zrH2 (h : Heap) (i1 l2 : Addr) : Heap := (zrH1 h l2).push { cls := .type "tuple", data := .seq #[.ref i1, .ref h.objs.size] }
abbrev zrH3 (h : Heap) (i1 l2 : Addr) : Heap := (zrH2 h i1 l2).push { cls := .type "tuple", data := .seq #[.none, .none] }
abbrev zrH4 (h : Heap) (i1 l2 : Addr) : Heap := (zrH3 h i1 l2).push { cls := .type "zip", data := .fields #[.none, .bool false, .bool false, .ref (zrH1 h l2).objs.size, .ref (zrH2 h i1 l2).objs.size] }
theorem meets_zr_new (i1 l2 : Addr) (x : Str) (tx : Tok) (k : Int) (ys : Array Value) :
    Meets (Builtin.«zip.__new__» ⟨[.type "zip", .ref i1, .ref l2], []⟩) (fun _ R s => IsRevS s.heap i1 x tx k ∧ s.heap.IsTuple l2 ys ∧
      R (.ok (.ret (.ref (zrH3 s.heap i1 l2).objs.size))) { s with heap := zrH4 s.heap i1 l2 }) :=
  .of_wp fun prog w A R s h => by
    obtain ⟨hp, g, d, tk, os⟩ := s; obtain ⟨hl1, hl2, h⟩ := h
    have hsub := sub_zip
    have hL1 : IsRevS (Shared.heap ⟨hp, g, d, tk, os⟩) i1 x tx k := hl1
    have hL2 : Heap.IsTuple (Shared.heap ⟨hp, g, d, tk, os⟩) l2 ys := hl2
    wp_walk using wpAny_pyIter_rev hL1, wpAny_pyIter_tuple hL2
    exact ⟨_, rfl, h⟩
section
variable {prog : Program} {w : World} {A : Around} {E : Value → Shared → Prop} {s : Shared}
theorem call_zr {i1 l2 : Addr} {x : Str} {tx : Tok} {k : Int} {ys : Array Value} {Q : Value → Shared → Prop} (hl1 : IsRevS s.heap i1 x tx k) (hl2 : s.heap.IsTuple l2 ys)
    (h : ∀ h', IsZip h' (s.heap.objs.size + 3) (s.heap.objs.size + 1) (s.heap.objs.size + 2) .none → IsPair h' (s.heap.objs.size + 1) (.ref i1) (.ref s.heap.objs.size) →
      IsPair h' (s.heap.objs.size + 2) .none .none → h'.IsTupleIter s.heap.objs.size l2 0 → h'.objs.size = s.heap.objs.size + 4 →
      (∀ c o, s.heap.get? c = some o → h'.get? c = some o) → Q (.ref (s.heap.objs.size + 3)) { s with heap := h' }) :
    wpAny (model prog w) A (call (.type "zip") [.ref i1, .ref l2]) Q E s := by
  refine callType_new F.called_zip (by decide) (F.typeCall_zip_2 _ _) (F.newCall_zip_2 _ _) (fun obj => F.args_object_init_3 obj _ _) F.entry_zip_new
    (meets_zr_new i1 l2 x tx k ys) ⟨hl1, hl2, ?_⟩
  have z1 : (zrH1 s.heap l2).objs.size = s.heap.objs.size + 1 := Heap.size_push ..
  have z2 : (zrH2 s.heap i1 l2).objs.size = s.heap.objs.size + 2 := by rw [Heap.size_push, z1]
  have z3 : (zrH3 s.heap i1 l2).objs.size = s.heap.objs.size + 3 := by rw [Heap.size_push, z2]
  have z4 : (zrH4 s.heap i1 l2).objs.size = s.heap.objs.size + 4 := by rw [Heap.size_push, z3]
  have g4 : (zrH4 s.heap i1 l2).get? (zrH3 s.heap i1 l2).objs.size = some _ := Heap.get?_push_size _ rfl
  have g3 : (zrH4 s.heap i1 l2).get? (zrH2 s.heap i1 l2).objs.size = some _ := Heap.get?_push_of_some _ (Heap.get?_push_size _ rfl)
  have g2 : (zrH4 s.heap i1 l2).get? (zrH1 s.heap l2).objs.size = some _ := Heap.get?_push_of_some _ (Heap.get?_push_of_some _ (Heap.get?_push_size _ rfl))
  have g1 : (zrH4 s.heap i1 l2).get? s.heap.objs.size = some _ := Heap.get?_push_of_some _ (Heap.get?_push_of_some _ (Heap.get?_push_of_some _ (Heap.get?_push_size _ rfl)))
  show _ ∧ _
  rw [z1, z2, z3] at g4
  rw [z2] at g3
  rw [z1] at g2
  rw [z3]
  exact ⟨⟨_, g4, rfl⟩, h _ g4 g2 g3 ⟨_, g1, rfl, rfl⟩ z4 fun c o x =>
    Heap.get?_push_of_some _ (Heap.get?_push_of_some _ (Heap.get?_push_of_some _ (Heap.get?_push_of_some _ x)))⟩
theorem WalksT.zr (hh : A.handled = none) (z TI TO i1 i2 l2 : Addr) (d1 : TI ≠ z) (d2 : TO ≠ z) (d3 : i1 ≠ z) (d4 : i2 ≠ z) (d5 : TI ≠ TO) (d6 : TO ≠ i1) (d7 : TO ≠ i2) (d8 : i1 ≠ i2) (d9 : l2 ≠ z) (d10 : l2 ≠ TO) (d11 : l2 ≠ i1) (d12 : TI ≠ i1) (d13 : TI ≠ i2) (d14 : l2 ≠ i2)
    (x : Str) (tx : Tok) (ys : Array Value) (hx : x.length ≤ ys.size) (hx1 : x.length ≤ 100) :
    WalksT prog w A z [z, TI, TO, i1, i2, l2] [z, TO, i1, i2] x.length
      (fun i vals => i < x.length ∧ ∃ c u y, x.cps[x.length - 1 - i]? = some c ∧ ys[i]? = some y ∧ vals = #[.str ⟨#[c]⟩ u, y])
      (fun i h => IsZip h z TI TO .none ∧ IsPair h TI (.ref i1) (.ref i2) ∧ (∃ a b, IsPair h TO a b) ∧ IsRevS h i1 x tx ((x.length : Int) - 1 - i) ∧ h.IsTupleIter i2 l2 i ∧ h.IsTuple l2 ys)
      (fun i T h => IsZip h z TI TO (rawInt T) ∧ IsPair h TI (.ref i1) (.ref i2) ∧ (∃ a b, IsPair h TO a b) ∧ IsRevS h i1 x tx ((x.length : Int) - 1 - (i + 1 : Nat)) ∧ h.IsTupleIter i2 l2 (i + 1) ∧ h.IsTuple l2 ys ∧
        T ≠ z ∧ T ≠ TO ∧ T ≠ i1 ∧ T ≠ i2) where
  sub := fun c hc => by simp at hc ⊢; rcases hc with rfl | rfl | rfl | rfl <;> simp
  frame := fun i h h' hst hk => by
    obtain ⟨hz, hTI, ⟨a, b, hTO⟩, h1, h2, hl2⟩ := hst
    exact ⟨hk z (by simp) _ hz, hk TI (by simp) _ hTI, ⟨a, b, hk TO (by simp) _ hTO⟩, hk i1 (by simp) _ h1, (by obtain ⟨o, e, r⟩ := h2; exact ⟨o, hk i2 (by simp) o e, r⟩),
      (by obtain ⟨o, e, r⟩ := hl2; exact ⟨o, hk l2 (by simp) o e, r⟩)⟩
  item := fun i s Q E hi hst hQ => by
    obtain ⟨hz, hTI, ⟨a, b, hTO⟩, h1, h2, hl2⟩ := hst
    have hk : x.length - 1 - i < x.length := by omega
    have hix : x.length - 1 - i < x.cps.size := hk
    have hiy : i < ys.size := by omega
    rw [show (x.length : Int) - 1 - (i : Int) = ((x.length - 1 - i : Nat) : Int) by omega] at h1
    refine wpAny_pyNext_zr_item d1 d2 d3 d4 d6 d7 d8 d9 d10 d11 hz hTI hTO h1 h2 hl2 hk (Array.getElem?_eq_getElem hix) hx1 (Array.getElem?_eq_getElem hiy) fun h' u tk a1 a2 a3 a4 a5 a6 hkp => ?_
    have lt : ∀ {c o}, s.heap.get? c = some o → s.heap.objs.size ≠ c := fun e => Nat.ne_of_gt (Heap.lt_size e)
    rw [show ((x.length - 1 - i : Nat) : Int) - 1 = (x.length : Int) - 1 - ((i + 1 : Nat) : Int) by omega] at a3
    exact hQ s.heap.objs.size #[_, ys[i]] h' tk ⟨hi, _, u, _, Array.getElem?_eq_getElem hix, Array.getElem?_eq_getElem hiy, rfl⟩ (Nat.le_refl _) ⟨_, a5, rfl, _, rfl⟩
      ⟨a1, hkp _ _ d1 d5 d12 d13 hTI, ⟨_, _, a2⟩, a3, a4, (by obtain ⟨o, e, r⟩ := hl2; exact ⟨o, hkp _ o d9 d10 d11 d14 e, r⟩),
        lt hz, lt hTO, lt h1, (by obtain ⟨_, e, _⟩ := h2; exact lt e)⟩
      fun c o hc e => hkp c o (fun x => hc (by simp [x])) (fun x => hc (by simp [x])) (fun x => hc (by simp [x])) (fun x => hc (by simp [x])) e
  go := fun elts k pos i T s Q E hm hQ => by
    obtain ⟨hz, hTI, ⟨a, b, hTO⟩, h1, h2, hl2, _⟩ := hm
    refine wpAny_letOwnedTupleGo_zip hz fun h' hz' hs' => hQ h' ⟨hz', hs'.extBut _ _ d1 hTI, ⟨a, b, hs'.extBut _ _ d2 hTO⟩, hs'.extBut _ _ d3 h1, h2.extBut hs'.extBut d4,
      hl2.extBut hs'.extBut d9⟩ fun c o hc e => hs'.extBut _ _ (fun x => hc (by simp [x])) e
  apart := fun i T h hm hT => by
    obtain ⟨_, _, _, _, _, _, t1, t2, t3, t4⟩ := hm
    simp at hT
    rcases hT with rfl | rfl | rfl | rfl
    · exact t1 rfl
    · exact t2 rfl
    · exact t3 rfl
    · exact t4 rfl
  done := fun s Q E hst hQ => by
    obtain ⟨hz, hTI, ⟨a, b, hTO⟩, h1, h2, hl2⟩ := hst
    rw [show (x.length : Int) - 1 - (x.length : Nat) = -1 by omega] at h1
    exact wpAny_pyNext_zr_end hh d1 d2 d3 hz hTI hTO h1 fun h' hk => hQ h' s.toks fun c o hc e => hk c o (fun x => hc (by simp [x])) (fun x => hc (by simp [x])) e
  self := fun i s Q E hst hQ => wpAny_pyIter_zip hst.1 hQ
end
end
section
theorem off_Z5 : True := by
  w_top off
  trivial
local macro_rules | `(tactic| walk_at "M none") => `(tactic| fail "none")
local macro_rules | `(tactic| walk_at "M none") => `(tactic| fail "none")
local macro_rules | `(tactic| walk_at "M none") => `(tactic| fail "none")
local macro_rules | `(tactic| walk_at "M none") => `(tactic| fail "none")
local macro_rules | `(tactic| walk_at "M none") => `(tactic| fail "none")
local macro_rules | `(tactic| walk_at "M none") => `(tactic| fail "none")
local macro_rules | `(tactic| walk_at "M none") => `(tactic| fail "none")
local macro_rules | `(tactic| walk_at "M none") => `(tactic| fail "none")
local macro_rules | `(tactic| walk_at "M none") => `(tactic| fail "none")
local macro_rules | `(tactic| walk_at "M none") => `(tactic| fail "none")
local macro_rules | `(tactic| walk_at "M none") => `(tactic| fail "none")
local macro_rules | `(tactic| walk_at "M none") => `(tactic| fail "none")
local macro_rules | `(tactic| walk_at "M none") => `(tactic| fail "none")
local macro_rules | `(tactic| walk_at "M none") => `(tactic| fail "none")
local macro_rules | `(tactic| walk_at "M none") => `(tactic| fail "none")
local macro_rules | `(tactic| walk_at "M none") => `(tactic| fail "none")
local macro_rules | `(tactic| walk_at "M none") => `(tactic| fail "none")
local macro_rules | `(tactic| walk_at "M none") => `(tactic| fail "none")
local macro_rules | `(tactic| walk_at "M none") => `(tactic| fail "none")
local macro_rules | `(tactic| walk_at "M none") => `(tactic| fail "none")
local macro_rules | `(tactic| walk_at "M none") => `(tactic| fail "none")
local macro_rules | `(tactic| walk_at "M none") => `(tactic| fail "none")
local macro_rules | `(tactic| walk_at "M none") => `(tactic| fail "none")
local macro_rules | `(tactic| walk_at "M none") => `(tactic| fail "none")
local macro_rules | `(tactic| walk_at "M none") => `(tactic| fail "none")
local macro_rules | `(tactic| walk_at "M none") => `(tactic| fail "none")
local macro_rules | `(tactic| walk_at "M none") => `(tactic| fail "none")
local macro_rules | `(tactic| walk_at "M none") => `(tactic| fail "none")
local macro_rules | `(tactic| walk_at "M none") => `(tactic| fail "none")
local macro_rules | `(tactic| walk_at "M none") => `(tactic| fail "none")
local macro_rules | `(tactic| k_all) => `(tactic| assumption)
local macro_rules | `(tactic| walk_at "M enter") => `(tactic| (refine wpAny_call ?_; k_dflt (refine' code_def ?k1 ?k2 ?k3 ?k4 ?k5 ?kA ?kF ?kK ?k6 ?k7 ?k8 ?k9 ?kB ?_ ?c2 ?c3 ?c4 ?c5; (case kA => first | assumption | exact rfl); (case kF => assumption); (case kK => assumption); (case k1 => k_asm); (case k2 => k_asm); (case k3 => k_asm); (case k4 => k_asm); (case k5 => k_asm); (case k6 => k_is); (case k7 => k_is); (case k8 => first | omega | (dsimp only; omega)); (case k9 => exact BindsTo.of_eq rfl); (case c5 => decide); (case kB => exact locs rfl); (case c2 => exact rfl); (case c3 => exact rfl); (case c4 => exact rfl); k_whole)))
local macro_rules | `(tactic| walk_at "M enterT") => `(tactic| (refine wpAny_call ?_; k_dflt (refine' code_defT ?k1 ?k2 ?k3 ?k4 ?k5 ?kA ?kF ?kK ?k6 ?k7 ?k8 ?k9 ?kB ?_ ?c2 ?c3 ?c4 ?c5; (case kA => first | assumption | exact rfl); (case kF => assumption); (case kK => assumption); (case k1 => k_asm); (case k2 => k_asm); (case k3 => k_asm); (case k4 => k_asm); (case k5 => k_asm); (case k6 => k_is); (case k7 => k_is); (case k8 => first | omega | (dsimp only; omega)); (case k9 => exact BindsTo.of_eq rfl); (case c5 => decide); (case kB => exact locs rfl); (case c2 => exact rfl); (case c3 => exact rfl); (case c4 => exact rfl); k_whole)))
local macro_rules | `(tactic| walk_at "M open") => `(tactic| (rename Around => A9; rename (Around.frames _ = _) => hA9; rename (Around.handled _ = _) => hh9; revert hA9 hh9; rename (Around.depth _ + _ < _) => hd9; revert hd9; rename (Around.units _ + _ < _) => hu9; revert hu9; cases A9; dsimp only; intro hu9 hd9 hA9 hh9; subst hA9; subst hh9))
local macro_rules | `(tactic| walk_at "M noloop") => `(tactic| ((fail_if_success (with_reducible show wpAny _ _ (exec (Stmt.While _ _ _ _) _) _ _ _)); (fail_if_success (with_reducible show wpAny _ _ (exec (Stmt.For _ _ _ _ _) _) _ _ _)); (fail_if_success (with_reducible show LCg.CompSrc _ _ _ _ _ _ _ _ _ _ _ _ _ _)); (fail_if_success (with_reducible show wpAny _ _ (eval (PySem.Expr.ListComp _ _ _ _) _) _ _ _)); (fail_if_success (with_reducible show wpAny _ _ _ (fun it s₂ => PairAt3 _ _ _ _ _ _ _ _ _ _ it s₂) _ _))))
local macro_rules | `(tactic| walk_at "M go") => `(tactic| repeat' (walk_at "M noloop"; first | (k_unfold; (try dsimp only)) | (k_end; kc_close) | walk1 | (dsimp only; walk1) | (leave1; walk_say "STEP leave1"; (try dsimp only)) | fail "no step"))
local macro_rules | `(tactic| walk_at "And") => `(tactic| ((with_reducible show PySem.Str.length (_ ++ _) ≤ sizeLine ∧ wpAny _ _ (joinParts _ _) _ _ _); refine fs_and (by (simp only [len_mk, show Str.length Str.empty = 0 from rfl] at *); omega) ?_; intro zF hzF))
local macro_rules | `(tactic| walk_at "joinParts") => `(tactic| (first | (with_reducible show wpAny _ _ (joinParts _ []) _ _ _) | (with_reducible refine joinParts_nilE ?_)); refine fs_nil (by (simp only [len_mk, show Str.length Str.empty = 0 from rfl] at *); omega) ?_)
local macro_rules | `(tactic| walk_at "M enterC") => `(tactic| (refine wpAny_call ?_; k_dflt (refine' code_defC ?k1 ?k2 ?k3 ?k4 ?k5 ?kA ?kF ?kK ?k6 ?k7 ?k8 ?k9 ?kB ?kD ?_ ?c2 ?c3 ?c4; (case kA => first | assumption | exact rfl); (case kF => assumption); (case kK => assumption); (case k1 => k_asm); (case k2 => k_asm); (case k3 => k_asm); (case k4 => k_asm); (case k5 => k_asm); (case k6 => k_is); (case k7 => k_is); (case k8 => first | omega | (dsimp only; omega)); (case k9 => exact BindsTo.of_eq rfl); (case kB => exact rfl); (case kD => decide +kernel); (case c2 => exact rfl); (case c3 => exact rfl); (case c4 => exact rfl); k_whole)))
local macro_rules | `(tactic| walk_at "M next") => `(tactic| (k_here; (with_reducible show wpAny _ _ (call (Value.ref 105) [Value.ref _, Value.int _ _]) _ _ _); k_dflt (refine' next_u ?B ?F ?X ?N ?T ?hA ?hf ?hke ?hh ?hd ?hu ?hst ?hos ?U ?hsc ?m0 ?m1 ?_; (case hA => exact rfl); (case hf => exact rfl); (case hke => exact rfl); (case hh => exact rfl); (case B => k_asm); (case F => k_asm); (case X => k_asm); (case N => k_asm); (case T => k_asm); (case hst => assumption); (case hos => assumption); (case U => k_updF); (case hsc => k_mem); (case hd => ktr_room); (case hu => ktr_units); (case m0 => omega); (case m1 => omega)); intro r9 t9 o9 h9 tk9 hr0 hr1 hst9 F9 N9; (try dsimp only at N9)))
def zrItems (x : Str) (ys : Array Value) : List Itm := (List.range x.length).map fun i => Itm.pair (fun t => .str ⟨#[x.cps.getD (x.length - 1 - i) 0]⟩ t) (ys.getD i .none)
abbrev zrWs (I i1 : Addr) : List (Addr × String) := [(I + 3, "zip"), (I + 1, "tuple"), (I + 2, "tuple"), (i1, "reversed"), (I, "tuple_iterator")]
section
variable {prog : Program} {w : World} {A : Around} {E : Value → Shared → Prop} {s : Shared} {env : Env} {h₀ : Heap} {body : List Stmt} {Q : Flow → Shared → Prop}
theorem iter_zr {elts : List PySem.Expr} {kk : Nat} {pos : Pos} {i1 l2 : Addr} {x : Str} {tx : Tok} {ys : Array Value} {lo : Obj} {n : Nat} {m₀ : Str → Option Value} {news : List (Addr × Obj)}
    (hh : A.handled = none) (F : Fr h₀ env.locals s.heap m₀) (N : News h₀ env.locals s.heap ((i1, revS x tx ((x.length : Int) - 1)) :: news)) (hoff : ∀ p ∈ news, p.1 ≠ i1)
    (hl : h₀.get? l2 = some lo) (hc : lo.cls = .type "tuple") (hd : lo.data = .seq ys n) (hx : x.length ≤ ys.size) (hx1 : x.length ≤ 100)
    (rest₀ : ∀ I, (∀ p ∈ news, p.1 < I) → i1 < I → ItemsRest prog w A E h₀ env (.Tuple elts kk pos) body Q s (zrWs I i1) [] (zrItems x ys) m₀ news) :
    wpAny (model prog w) A (call (.type "zip") [.ref i1, .ref l2]) (fun xv s₁ => wpAny (model prog w) A (pyIter xv) (fun it s₂ => TurnsAt prog w A h₀ env (.Tuple elts kk pos) body Q E it s₂) E s₁) E s := by
  have hr := N _ (.head _)
  have h1 : IsRevS s.heap i1 x tx ((x.length : Int) - 1) := hr.1
  have hl2' := F.keep _ _ hl
  have hl2 : s.heap.IsTuple l2 ys := ⟨lo, hl2', hc, n, hd⟩
  have hlt1 : i1 < s.heap.objs.size := Heap.lt_size h1
  have hlt2 : l2 < s.heap.objs.size := Heap.lt_size hl2'
  have hLs : env.locals < s.heap.objs.size := F.ns.lt
  have hl12 : l2 ≠ i1 := fun e => by rw [e] at hl; rw [hl] at hr; cases hr.2.2
  refine call_zr h1 hl2 fun h' hz hTI hTO hi2 hsz hk => ?_
  refine wpAny_pyIter_zip hz ?_
  have e1 : i1 ≠ s.heap.objs.size := Nat.ne_of_lt hlt1
  have e2 : l2 ≠ s.heap.objs.size := Nat.ne_of_lt hlt2
  have q : ∀ {a k : Nat}, a < s.heap.objs.size → a ≠ s.heap.objs.size + k := fun h => ktu_ne _ h
  have qq : ∀ {j k : Nat}, j ≠ k → s.heap.objs.size + j ≠ s.heap.objs.size + k := fun h e => h (Nat.add_left_cancel e)
  have q0 : ∀ {k : Nat}, k ≠ 0 → s.heap.objs.size + k ≠ s.heap.objs.size := fun h e => h (by omega)
  refine ktg_core (tk0 := s.toks) (ws := zrWs s.heap.objs.size i1) (keep := []) (KTurns.ofWalksU (WalksT.zr hh (s.heap.objs.size + 3) (s.heap.objs.size + 1) (s.heap.objs.size + 2) i1 s.heap.objs.size l2
    (qq (by decide)) (qq (by decide)) (q hlt1) (Ne.symm (q0 (by decide))) (qq (by decide)) (Ne.symm (q hlt1)) (q0 (by decide)) e1 (q hlt2) (q hlt2) hl12 (Ne.symm (q hlt1)) (q0 (by decide)) e2 x tx ys hx hx1).toU)
    (by simp [zrItems]) ?_ ?_ ?_ ?_ ?_ ?_ ?_ ?_ (F.keeps hk) (News.grown (fun p hp => N p (.tail _ hp)) hk) trivial (rest₀ _ (fun p hp => Heap.lt_size (N p (.tail _ hp)).1) hlt1)
  · rintro i v h ⟨T, vals, rfl, ⟨hi, c, u, y, hcx, hy, rfl⟩, hT⟩
    refine ⟨Itm.pair (fun t => .str ⟨#[x.cps.getD (x.length - 1 - i) 0]⟩ t) (ys.getD i .none), by rw [zrItems, List.getElem?_map, List.getElem?_range hi]; rfl, T, u, rfl, ?_⟩
    have a1 : x.cps.getD (x.length - 1 - i) 0 = c := by rw [Array.getD_eq_getD_getElem?, hcx]; rfl
    have a2 : ys.getD i .none = y := by rw [Array.getD_eq_getD_getElem?, hy]; rfl
    rw [a1, a2]
    exact hT
  · rintro i h ⟨hz, hTI, ⟨a, b, hTO⟩, h1, ⟨o2, ho2, hc2, _⟩, _⟩
    exact ⟨[(s.heap.objs.size + 3, _), (s.heap.objs.size + 1, _), (s.heap.objs.size + 2, _), (i1, _), (s.heap.objs.size, o2)], ⟨⟨rfl, rfl⟩, ⟨rfl, rfl⟩, ⟨rfl, rfl⟩, ⟨rfl, rfl⟩, ⟨rfl, hc2⟩, trivial⟩, fun p hp => by
      rcases List.mem_cons.mp hp with rfl | hp
      · exact hz
      rcases List.mem_cons.mp hp with rfl | hp
      · exact hTI
      rcases List.mem_cons.mp hp with rfl | hp
      · exact hTO
      rcases List.mem_cons.mp hp with rfl | hp
      · exact h1
      rw [List.mem_singleton.mp hp]
      exact ho2⟩
  · intro b hb
    have hb' : b = s.heap.objs.size + 3 ∨ b = s.heap.objs.size + 1 ∨ b = s.heap.objs.size + 2 ∨ b = i1 ∨ b = s.heap.objs.size := by simpa using hb
    rcases hb' with rfl | rfl | rfl | rfl | rfl
    · exact ⟨by simp, ktu_new F (Nat.le_add_right _ _)⟩
    · exact ⟨by simp, ktu_new F (Nat.le_add_right _ _)⟩
    · exact ⟨by simp, ktu_new F (Nat.le_add_right _ _)⟩
    · exact ⟨by simp, hr.2.2⟩
    · exact ⟨by simp, ktu_new F (Nat.le_refl _)⟩
  · intro b hb
    have hb' : b = s.heap.objs.size + 3 ∨ b = s.heap.objs.size + 2 ∨ b = i1 ∨ b = s.heap.objs.size := by simpa using hb
    rcases hb' with rfl | rfl | rfl | rfl <;> simp
  · intro b hb
    have hb' : b = s.heap.objs.size + 3 ∨ b = s.heap.objs.size + 1 ∨ b = s.heap.objs.size + 2 ∨ b = i1 ∨ b = s.heap.objs.size ∨ b = l2 := by simpa using hb
    rcases hb' with rfl | rfl | rfl | rfl | rfl | rfl
    · exact .inl (by simp)
    · exact .inl (by simp)
    · exact .inl (by simp)
    · exact .inl (by simp)
    · exact .inl (by simp)
    · exact .inr (.inr ⟨lo, hl⟩)
  · intro hI'
    have hb' : env.locals = s.heap.objs.size + 3 ∨ env.locals = s.heap.objs.size + 1 ∨ env.locals = s.heap.objs.size + 2 ∨ env.locals = i1 ∨ env.locals = s.heap.objs.size ∨ env.locals = l2 := by simpa using hI'
    rcases hb' with e | e | e | e | e | e
    · exact ktu_ne 3 hLs e
    · exact ktu_ne 1 hLs e
    · exact ktu_ne 2 hLs e
    · exact hr.2.1 e.symm
    · exact Nat.ne_of_lt hLs e
    · exact absurd (Heap.lt_size hl) (Nat.not_lt.mpr (e ▸ F.above))
  · intro p hp hI'
    have hb' : p.1 = s.heap.objs.size + 3 ∨ p.1 = s.heap.objs.size + 2 ∨ p.1 = i1 ∨ p.1 = s.heap.objs.size := by simpa using hI'
    have hlp := Heap.lt_size (N p (.tail _ hp)).1
    rcases hb' with e | e | e | e
    · exact ktu_ne 3 hlp e
    · exact ktu_ne 2 hlp e
    · exact hoff p hp e
    · exact Nat.ne_of_lt hlp e
  · exact ⟨hz, hTI, ⟨_, _, hTO⟩, by rw [show ((0 : Nat) : Int) = 0 from rfl, Int.sub_zero]; exact hk _ _ h1, hi2, ⟨lo, hk _ _ hl2', hc, n, hd⟩⟩
end
end
section
theorem off_S0 : True := by
  w_top off
  trivial
local macro_rules | `(tactic| walk_at "M none") => `(tactic| fail "none")
local macro_rules | `(tactic| walk_at "M none") => `(tactic| fail "none")
local macro_rules | `(tactic| walk_at "M none") => `(tactic| fail "none")
local macro_rules | `(tactic| walk_at "M none") => `(tactic| fail "none")
local macro_rules | `(tactic| walk_at "M none") => `(tactic| fail "none")
local macro_rules | `(tactic| walk_at "M none") => `(tactic| fail "none")
local macro_rules | `(tactic| walk_at "M none") => `(tactic| fail "none")
local macro_rules | `(tactic| walk_at "M none") => `(tactic| fail "none")
local macro_rules | `(tactic| walk_at "M none") => `(tactic| fail "none")
local macro_rules | `(tactic| walk_at "M none") => `(tactic| fail "none")
local macro_rules | `(tactic| walk_at "M none") => `(tactic| fail "none")
local macro_rules | `(tactic| walk_at "M none") => `(tactic| fail "none")
local macro_rules | `(tactic| walk_at "M none") => `(tactic| fail "none")
local macro_rules | `(tactic| walk_at "M none") => `(tactic| fail "none")
local macro_rules | `(tactic| walk_at "M none") => `(tactic| fail "none")
local macro_rules | `(tactic| walk_at "M none") => `(tactic| fail "none")
local macro_rules | `(tactic| walk_at "M none") => `(tactic| fail "none")
local macro_rules | `(tactic| walk_at "M none") => `(tactic| fail "none")
local macro_rules | `(tactic| walk_at "M none") => `(tactic| fail "none")
local macro_rules | `(tactic| walk_at "M none") => `(tactic| fail "none")
local macro_rules | `(tactic| walk_at "M none") => `(tactic| fail "none")
local macro_rules | `(tactic| walk_at "M none") => `(tactic| fail "none")
local macro_rules | `(tactic| walk_at "M none") => `(tactic| fail "none")
local macro_rules | `(tactic| walk_at "M none") => `(tactic| fail "none")
local macro_rules | `(tactic| walk_at "M none") => `(tactic| fail "none")
local macro_rules | `(tactic| walk_at "M none") => `(tactic| fail "none")
local macro_rules | `(tactic| walk_at "M none") => `(tactic| fail "none")
local macro_rules | `(tactic| walk_at "M none") => `(tactic| fail "none")
local macro_rules | `(tactic| walk_at "M none") => `(tactic| fail "none")
local macro_rules | `(tactic| walk_at "M none") => `(tactic| fail "none")
local macro_rules | `(tactic| walk_at "M none") => `(tactic| fail "none")
local macro_rules | `(tactic| walk_at "M none") => `(tactic| fail "none")
local macro_rules | `(tactic| walk_at "M none") => `(tactic| fail "none")
local macro_rules | `(tactic| walk_at "M none") => `(tactic| fail "none")
local macro_rules | `(tactic| walk_at "M none") => `(tactic| fail "none")
local macro_rules | `(tactic| walk_at "M none") => `(tactic| fail "none")
local macro_rules | `(tactic| walk_at "M none") => `(tactic| fail "none")
local macro_rules | `(tactic| walk_at "M none") => `(tactic| fail "none")
local macro_rules | `(tactic| walk_at "M none") => `(tactic| fail "none")
local macro_rules | `(tactic| walk_at "M none") => `(tactic| fail "none")
local macro_rules | `(tactic| walk_at "M none") => `(tactic| fail "none")
local macro_rules | `(tactic| walk_at "M none") => `(tactic| fail "none")
local macro_rules | `(tactic| walk_at "M none") => `(tactic| fail "none")
local macro_rules | `(tactic| walk_at "M none") => `(tactic| fail "none")
local macro_rules | `(tactic| walk_at "M none") => `(tactic| fail "none")
local macro_rules | `(tactic| walk_at "M none") => `(tactic| fail "none")
local macro_rules | `(tactic| walk_at "M none") => `(tactic| fail "none")
local macro_rules | `(tactic| walk_at "M none") => `(tactic| fail "none")
local macro_rules | `(tactic| walk_at "M none") => `(tactic| fail "none")
local macro_rules | `(tactic| walk_at "M none") => `(tactic| fail "none")
local macro_rules | `(tactic| walk_at "M none") => `(tactic| fail "none")
local macro_rules | `(tactic| walk_at "M none") => `(tactic| fail "none")
local macro_rules | `(tactic| walk_at "M none") => `(tactic| fail "none")
local macro_rules | `(tactic| walk_at "M none") => `(tactic| fail "none")
local macro_rules | `(tactic| walk_at "M none") => `(tactic| fail "none")
local macro_rules | `(tactic| walk_at "M none") => `(tactic| fail "none")
local macro_rules | `(tactic| walk_at "M none") => `(tactic| fail "none")
local macro_rules | `(tactic| walk_at "M none") => `(tactic| fail "none")
local macro_rules | `(tactic| walk_at "M none") => `(tactic| fail "none")
local macro_rules | `(tactic| walk_at "M none") => `(tactic| fail "none")
local macro_rules | `(tactic| k_all) => `(tactic| assumption)
local macro_rules | `(tactic| walk_at "M enter") => `(tactic| (refine wpAny_call ?_; k_dflt (refine' code_def ?k1 ?k2 ?k3 ?k4 ?k5 ?kA ?kF ?kK ?k6 ?k7 ?k8 ?k9 ?kB ?_ ?c2 ?c3 ?c4 ?c5; (case kA => first | assumption | exact rfl); (case kF => assumption); (case kK => assumption); (case k1 => k_asm); (case k2 => k_asm); (case k3 => k_asm); (case k4 => k_asm); (case k5 => k_asm); (case k6 => k_is); (case k7 => k_is); (case k8 => first | omega | (dsimp only; omega)); (case k9 => exact BindsTo.of_eq rfl); (case c5 => decide); (case kB => exact locs rfl); (case c2 => exact rfl); (case c3 => exact rfl); (case c4 => exact rfl); k_whole)))
local macro_rules | `(tactic| walk_at "M enterT") => `(tactic| (refine wpAny_call ?_; k_dflt (refine' code_defT ?k1 ?k2 ?k3 ?k4 ?k5 ?kA ?kF ?kK ?k6 ?k7 ?k8 ?k9 ?kB ?_ ?c2 ?c3 ?c4 ?c5; (case kA => first | assumption | exact rfl); (case kF => assumption); (case kK => assumption); (case k1 => k_asm); (case k2 => k_asm); (case k3 => k_asm); (case k4 => k_asm); (case k5 => k_asm); (case k6 => k_is); (case k7 => k_is); (case k8 => first | omega | (dsimp only; omega)); (case k9 => exact BindsTo.of_eq rfl); (case c5 => decide); (case kB => exact locs rfl); (case c2 => exact rfl); (case c3 => exact rfl); (case c4 => exact rfl); k_whole)))
local macro_rules | `(tactic| walk_at "M open") => `(tactic| (rename Around => A9; rename (Around.frames _ = _) => hA9; rename (Around.handled _ = _) => hh9; revert hA9 hh9; rename (Around.depth _ + _ < _) => hd9; revert hd9; rename (Around.units _ + _ < _) => hu9; revert hu9; cases A9; dsimp only; intro hu9 hd9 hA9 hh9; subst hA9; subst hh9))
local macro_rules | `(tactic| walk_at "M noloop") => `(tactic| ((fail_if_success (with_reducible show wpAny _ _ (exec (Stmt.While _ _ _ _) _) _ _ _)); (fail_if_success (with_reducible show wpAny _ _ (exec (Stmt.For _ _ _ _ _) _) _ _ _)); (fail_if_success (with_reducible show LCg.CompSrc _ _ _ _ _ _ _ _ _ _ _ _ _ _)); (fail_if_success (with_reducible show wpAny _ _ (eval (PySem.Expr.ListComp _ _ _ _) _) _ _ _)); (fail_if_success (with_reducible show wpAny _ _ _ (fun it s₂ => PairAt3 _ _ _ _ _ _ _ _ _ _ it s₂) _ _))))
local macro_rules | `(tactic| walk_at "M go") => `(tactic| repeat' (walk_at "M noloop"; first | (k_unfold; (try dsimp only)) | (k_end; kc_close) | walk1 | (dsimp only; walk1) | (leave1; walk_say "STEP leave1"; (try dsimp only)) | fail "no step"))
local macro_rules | `(tactic| walk_at "And") => `(tactic| ((with_reducible show PySem.Str.length (_ ++ _) ≤ sizeLine ∧ wpAny _ _ (joinParts _ _) _ _ _); refine fs_and (by (simp only [len_mk, show Str.length Str.empty = 0 from rfl] at *); omega) ?_; intro zF hzF))
local macro_rules | `(tactic| walk_at "joinParts") => `(tactic| (first | (with_reducible show wpAny _ _ (joinParts _ []) _ _ _) | (with_reducible refine joinParts_nilE ?_)); refine fs_nil (by (simp only [len_mk, show Str.length Str.empty = 0 from rfl] at *); omega) ?_)
local macro_rules | `(tactic| walk_at "M enterC") => `(tactic| (refine wpAny_call ?_; k_dflt (refine' code_defC ?k1 ?k2 ?k3 ?k4 ?k5 ?kA ?kF ?kK ?k6 ?k7 ?k8 ?k9 ?kB ?kD ?_ ?c2 ?c3 ?c4; (case kA => first | assumption | exact rfl); (case kF => assumption); (case kK => assumption); (case k1 => k_asm); (case k2 => k_asm); (case k3 => k_asm); (case k4 => k_asm); (case k5 => k_asm); (case k6 => k_is); (case k7 => k_is); (case k8 => first | omega | (dsimp only; omega)); (case k9 => exact BindsTo.of_eq rfl); (case kB => exact rfl); (case kD => decide +kernel); (case c2 => exact rfl); (case c3 => exact rfl); (case c4 => exact rfl); k_whole)))
local macro_rules | `(tactic| walk_at "M next") => `(tactic| (k_here; (with_reducible show wpAny _ _ (call (Value.ref 105) [Value.ref _, Value.int _ _]) _ _ _); k_dflt (refine' next_u ?B ?F ?X ?N ?T ?hA ?hf ?hke ?hh ?hd ?hu ?hst ?hos ?U ?hsc ?m0 ?m1 ?_; (case hA => exact rfl); (case hf => exact rfl); (case hke => exact rfl); (case hh => exact rfl); (case B => k_asm); (case F => k_asm); (case X => k_asm); (case N => k_asm); (case T => k_asm); (case hst => assumption); (case hos => assumption); (case U => k_updF); (case hsc => k_mem); (case hd => ktr_room); (case hu => ktr_units); (case m0 => omega); (case m1 => omega)); intro r9 t9 o9 h9 tk9 hr0 hr1 hst9 F9 N9; (try dsimp only at N9)))
section
/-- no word of this code looks at the text but through «accepts» and the two plain places -/
def okWord (C : Array Nat) (i : Nat) : Bool := match Sre.ops[C.getD i 0]? with
  | some .GROUPREF | some .GROUPREF_IGNORE | some .GROUPREF_UNI_IGNORE => false
  | some .AT => ![3, 4, 10, 11].contains (C.getD (i + 1) 0)
  | _ => true
structure Alike (C T T' : Array Nat) : Prop where
  acc : ∀ i p s, Sre.accepts C i (T.getD p 0) s = Sre.accepts C i (T'.getD p 0) s
  nl : ∀ p, (T.getD p 0 == 10) = (T'.getD p 0 == 10)
  word : ∀ i, okWord C i = true
  first : C.getD 2 0 ≠ 4
def Rl (C T T' : Array Nat) (m m' : Sre.M) : Prop := m.code = C ∧ m.text = T ∧ m' = { m with text := T' }
section
variable {C T T' : Array Nat}
theorem run_alike (H : Alike C T T') (i : Nat) : ∀ n p found s, Sre.run C T i n p found s = Sre.run C T' i n p found s
  | 0, _, _, _ => rfl
  | n + 1, p, found, s => by
    unfold Sre.run
    rw [H.acc]
    congr 1
    funext x
    obtain ⟨yes, seen⟩ := x
    dsimp only
    rw [run_alike H i n]
theorem attempt_re {m m' : Sre.M} (R : Rl C T T' m m') (f : Sre.Frame) (t fr : Nat) (o : Bool) : Rl C T T' (m.attempt f t fr o) (m'.attempt f t fr o) := by
  obtain ⟨hc, ht, rfl⟩ := R
  unfold Sre.M.attempt
  dsimp only
  split
  · exact ⟨hc, ht, rfl⟩
  · exact ⟨hc, ht, rfl⟩
theorem say_re {m m' : Sre.M} (R : Rl C T T' m m') (y : Bool) : Rl C T T' (m.say y) (m'.say y) := by obtain ⟨hc, ht, rfl⟩ := R; exact ⟨hc, ht, rfl⟩
theorem stick_re {m m' : Sre.M} (R : Rl C T T' m m') (y : String) : Rl C T T' (m.stick y) (m'.stick y) := by obtain ⟨hc, ht, rfl⟩ := R; exact ⟨hc, ht, rfl⟩
theorem putBack_re {m m' : Sre.M} (R : Rl C T T' m m') (k : Sre.Kept) : Rl C T T' (m.putBack k) (m'.putBack k) := by obtain ⟨hc, ht, rfl⟩ := R; exact ⟨hc, ht, rfl⟩
theorem setLoop_re {m m' : Sre.M} (R : Rl C T T' m m') (i : Nat) (f : Sre.Loop → Sre.Loop) : Rl C T T' (m.setLoop i f) (m'.setLoop i f) := by obtain ⟨hc, ht, rfl⟩ := R; exact ⟨hc, ht, rfl⟩
theorem mark_re {m m' : Sre.M} (R : Rl C T T' m m') (i : Nat) : Rl C T T' (m.mark i) (m'.mark i) := by obtain ⟨hc, ht, rfl⟩ := R; exact ⟨hc, ht, rfl⟩
theorem keep_re {m m' : Sre.M} (R : Rl C T T' m m') (w : Bool) : m'.keep w = m.keep w := by obtain ⟨hc, ht, rfl⟩ := R; rfl
theorem frame_re {m m' : Sre.M} (R : Rl C T T' m m') (w : Sre.Wait) : m'.frame w = m.frame w := by obtain ⟨hc, ht, rfl⟩ := R; rfl
theorem alternative_re {m m' : Sre.M} (R : Rl C T T' m m') (alt : Nat) (k : Sre.Kept) : Rl C T T' (m.alternative alt k) (m'.alternative alt k) := by
  obtain ⟨hc, ht, rfl⟩ := R
  unfold Sre.M.alternative
  dsimp only
  split
  · exact ⟨hc, ht, rfl⟩
  · exact attempt_re ⟨hc, ht, rfl⟩ ..
theorem afterRun_re {m m' : Sre.M} (R : Rl C T T' m m') (w : Sre.Wait) (c : Int) (k : Sre.Kept) : Rl C T T' (m.afterRun w c k) (m'.afterRun w c k) := by
  obtain ⟨hc, ht, rfl⟩ := R
  exact attempt_re ⟨hc, ht, rfl⟩ ..
theorem afterLoop_re {m m' : Sre.M} (R : Rl C T T' m m') (w : Sre.Wait) (i : Nat) (c : Int) (wh : Option Nat → Bool) : Rl C T T' (m.afterLoop w i c wh) (m'.afterLoop w i c wh) := by
  obtain ⟨hc, ht, rfl⟩ := R
  exact attempt_re (m := { m with inner := (m.loopAt i).outer }) ⟨hc, ht, rfl⟩ ..
theorem round_re {m m' : Sre.M} (R : Rl C T T' m m') (w : Sre.Wait) (i : Nat) (c : Int) (g : Bool) (k : Sre.Kept) : Rl C T T' (m.round w i c g k) (m'.round w i c g k) := by
  obtain ⟨hc, ht, rfl⟩ := R
  exact attempt_re (m := m.setLoop i fun l => { l with count := c, began := if g then some m.pos else l.began }) ⟨hc, ht, rfl⟩ ..
theorem until_re {m m' : Sre.M} (R : Rl C T T' m m') (g : Bool) : Rl C T T' (m.until_ g) (m'.until_ g) := by
  have R0 := R
  obtain ⟨hc, ht, rfl⟩ := R
  unfold Sre.M.until_
  dsimp only [Sre.M.loopAt]
  split
  · exact stick_re R0 _
  · split
    · exact round_re R0 ..
    · split
      · exact afterLoop_re R0 ..
      · split
        · exact round_re R0 ..
        · exact afterLoop_re R0 ..
theorem possessive_re {m m' : Sre.M} (R : Rl C T T' m m') (i : Nat) (c : Int) (b : Option Nat) : Rl C T T' (m.possessive i c b) (m'.possessive i c b) := by
  have R0 := R
  obtain ⟨hc, ht, rfl⟩ := R
  unfold Sre.M.possessive
  dsimp only [Sre.M.word, Sre.M.frame, Sre.M.loopAt, Sre.M.keep]
  split
  · exact attempt_re R0 ..
  · split
    · exact attempt_re R0 ..
    · exact ⟨hc, ht, rfl⟩
theorem isAt_re (H : Alike C T T') {m m' : Sre.M} (R : Rl C T T' m m') (k : Nat) (hk : (![3, 4, 10, 11].contains k) = true) : m'.isAt k = m.isAt k := by
  obtain ⟨hc, ht, rfl⟩ := R
  match k, hk with
  | 0, _ | 2, _ | 7, _ | 8, _ | 9, _ => rfl
  | 1, _ => simp only [Sre.M.isAt]; rw [ht, H.nl]
  | 5, _ => simp only [Sre.M.isAt]; rw [ht, H.nl]
  | 6, _ => simp only [Sre.M.isAt]; rw [ht, H.nl]
  | 3, h | 4, h | 10, h | 11, h => cases h
  | k + 12, _ => rfl
theorem attemptFrom_re (H : Alike C T T') {m m' : Sre.M} (R : Rl C T T' m m') (s : Nat) (f : Bool) : Rl C T T' (m.attemptFrom s f) (m'.attemptFrom s f) := by
  obtain ⟨hc, ht, rfl⟩ := R
  have h1 : m.hasFirstSet = false := by
    unfold Sre.M.hasFirstSet
    rw [hc]
    have := H.first
    rw [show (C.getD 2 0 == 4) = false from beq_eq_false_iff_ne.mpr this, Bool.and_false]
  have h2 : ({ m with text := T' } : Sre.M).hasFirstSet = false := h1
  unfold Sre.M.attemptFrom
  rw [h1, h2]
  exact attempt_re (m := { m with start := s, pos := s, lastmark := -1, lastindex := -1 }) ⟨hc, ht, rfl⟩ ..
theorem ite_re {c : Prop} [Decidable c] {a a' b b' : Sre.M} (h1 : Rl C T T' a a') (h2 : Rl C T T' b b') : Rl C T T' (if c then a else b) (if c then a' else b') := by
  split
  · exact h1
  · exact h2
theorem resume_re (H : Alike C T T') {m m' : Sre.M} (R : Rl C T T' m m') (f : Sre.Frame) (y : Bool) : Rl C T T' (m.resume f y) (m'.resume f y) := by
  have R0 := R
  obtain ⟨rfl, rfl, rfl⟩ := R
  unfold Sre.M.resume
  dsimp only [Sre.M.word, Sre.M.loopAt]
  cases f.wait <;> dsimp only
  case nextStart =>
    refine ite_re ?_ (ite_re ?_ ?_)
    · exact say_re R0 _
    · exact attemptFrom_re (m := { m with mustAdvance := false }) H ⟨rfl, rfl, rfl⟩ ..
    · exact say_re R0 _
  case nextBranch =>
    split
    · exact say_re R0 _
    · exact alternative_re (putBack_re R0 _) ..
  case giveBack =>
    refine ite_re ?_ (ite_re ?_ ?_)
    · exact say_re R0 _
    · exact say_re (putBack_re R0 _) _
    · exact afterRun_re (m := { m.putBack f.kept with pos := f.pos - 1 }) ⟨rfl, rfl, rfl⟩ ..
  case takeMore =>
    refine ite_re ?_ (ite_re ?_ (ite_re ?_ ?_))
    · exact say_re R0 _
    · exact say_re (putBack_re R0 _) _
    · exact say_re (putBack_re R0 _) _
    · rw [← H.acc]
      split
      · exact stick_re R0 _
      · exact ⟨rfl, rfl, rfl⟩
      · exact afterRun_re (m := { m.putBack f.kept with seen := _, pos := f.pos + 1 }) ⟨rfl, rfl, rfl⟩ ..
  case closeLoop => exact ⟨rfl, rfl, rfl⟩
  case maxBelow =>
    split
    · exact say_re R0 _
    · exact say_re (setLoop_re R0 ..) _
  case minBelow =>
    split
    · exact say_re R0 _
    · exact say_re (setLoop_re R0 ..) _
  case maxMore =>
    split
    · exact say_re (setLoop_re R0 ..) _
    · exact afterLoop_re (setLoop_re (putBack_re (setLoop_re R0 ..) _) ..) ..
  case maxTail => exact ⟨rfl, rfl, rfl⟩
  case minTail =>
    refine ite_re ?_ (ite_re ?_ ?_)
    · exact ⟨rfl, rfl, rfl⟩
    · exact say_re (m := ({ m with inner := some f.loop } : Sre.M).putBack f.kept) ⟨rfl, rfl, rfl⟩ _
    · exact round_re (m := ({ m with inner := some f.loop } : Sre.M).putBack f.kept) ⟨rfl, rfl, rfl⟩ ..
  case minMore =>
    split
    · exact say_re (setLoop_re R0 ..) _
    · exact say_re (setLoop_re (setLoop_re R0 ..) ..) _
  case possBelow =>
    split
    · exact possessive_re R0 ..
    · exact ⟨rfl, rfl, rfl⟩
  case possMore =>
    split
    · exact possessive_re R0 ..
    · exact possessive_re (m := { m.putBack f.kept with handed := f.pos }) ⟨rfl, rfl, rfl⟩ ..
  case atomic =>
    split
    · exact ⟨rfl, rfl, rfl⟩
    · exact ⟨rfl, rfl, rfl⟩
  case look =>
    split
    · exact ⟨rfl, rfl, rfl⟩
    · exact ⟨rfl, rfl, rfl⟩
  case lookNot =>
    split
    · exact ⟨rfl, rfl, rfl⟩
    · exact ⟨rfl, rfl, rfl⟩
theorem exec_re (H : Alike C T T') {m m' : Sre.M} (R : Rl C T T' m m') : Rl C T T' m.exec m'.exec := by
  have R0 := R
  obtain ⟨rfl, rfl, rfl⟩ := R
  have hw := H.word m.pc
  unfold okWord at hw
  unfold Sre.M.exec
  dsimp only [Sre.M.word]
  rw [show m.pc + 0 = m.pc from rfl]
  cases ho : Sre.ops[m.code.getD m.pc 0]? with
  | none => dsimp only; exact stick_re R0 _
  | some op =>
    rw [ho] at hw
    dsimp only
    have R1 : Rl m.code m.text T' { m with seen := m.seen.add (m.code.getD m.pc 0) } { ({ m with text := T' } : Sre.M) with seen := m.seen.add (m.code.getD m.pc 0) } := ⟨rfl, rfl, rfl⟩
    cases op <;> dsimp only at hw ⊢
    all_goals first
      | exact stick_re R1 _
      | exact say_re R1 _
      | (cases hw; done)
      | exact mark_re R1 _
      | exact ⟨rfl, rfl, rfl⟩
      | exact attempt_re R1 ..
      | exact alternative_re R1 ..
      | skip
    all_goals first
      | (rw [isAt_re H R1 _ hw]
         split
         · exact stick_re R1 _
         · exact ite_re ⟨rfl, rfl, rfl⟩ ⟨rfl, rfl, rfl⟩)
      | exact ite_re ⟨rfl, rfl, rfl⟩ ⟨rfl, rfl, rfl⟩
      | (refine ite_re (say_re R1 _) ?_
         rw [← H.acc]
         split
         · exact stick_re R1 _
         · exact ⟨rfl, rfl, rfl⟩
         · exact ⟨rfl, rfl, rfl⟩)
      | (refine ite_re (say_re R1 _) ?_
         rw [← run_alike H]
         split
         · exact stick_re R1 _
         · refine ite_re ⟨rfl, rfl, rfl⟩ ?_
           first | exact afterRun_re ⟨rfl, rfl, rfl⟩ .. | exact ⟨rfl, rfl, rfl⟩)
      | exact until_re ⟨rfl, rfl, rfl⟩ _
      | exact possessive_re ⟨rfl, rfl, rfl⟩ ..
      | exact attempt_re ⟨rfl, rfl, rfl⟩ ..
      | exact ite_re (ite_re ⟨rfl, rfl, rfl⟩ ⟨rfl, rfl, rfl⟩) (attempt_re R1 ..)
theorem step_re (H : Alike C T T') {m m' : Sre.M} (R : Rl C T T' m m') : Rl C T T' m.step m'.step := by
  have R0 := R
  obtain ⟨rfl, rfl, rfl⟩ := R
  unfold Sre.M.step
  dsimp only
  split
  · exact ⟨rfl, rfl, rfl⟩
  · split
    · exact ⟨rfl, rfl, rfl⟩
    · exact resume_re H (m := { m with answer := none, frames := _, weight := _, pc := _, pos := _, outermost := _ }) ⟨rfl, rfl, rfl⟩ ..
    · split
      · exact exec_re H R0
      · exact stick_re R0 _
theorem runFor_re (H : Alike C T T') (n : Nat) : ∀ {m m' : Sre.M}, Rl C T T' m m' → Rl C T T' (m.runFor n) (m'.runFor n) := by
  induction n with
  | zero => exact fun R => R
  | succ n ih =>
    intro m m' R
    unfold Sre.M.runFor
    rw [show m'.outcome = m.outcome by obtain ⟨_, _, rfl⟩ := R; rfl]
    exact ite_re R (ih (step_re H R))
end
end
end
section
theorem off_S1 : True := by
  w_top off
  trivial
local macro_rules | `(tactic| walk_at "M none") => `(tactic| fail "none")
local macro_rules | `(tactic| walk_at "M none") => `(tactic| fail "none")
local macro_rules | `(tactic| walk_at "M none") => `(tactic| fail "none")
local macro_rules | `(tactic| walk_at "M none") => `(tactic| fail "none")
local macro_rules | `(tactic| walk_at "M none") => `(tactic| fail "none")
local macro_rules | `(tactic| walk_at "M none") => `(tactic| fail "none")
local macro_rules | `(tactic| walk_at "M none") => `(tactic| fail "none")
local macro_rules | `(tactic| walk_at "M none") => `(tactic| fail "none")
local macro_rules | `(tactic| walk_at "M none") => `(tactic| fail "none")
local macro_rules | `(tactic| walk_at "M none") => `(tactic| fail "none")
local macro_rules | `(tactic| walk_at "M none") => `(tactic| fail "none")
local macro_rules | `(tactic| walk_at "M none") => `(tactic| fail "none")
local macro_rules | `(tactic| walk_at "M none") => `(tactic| fail "none")
local macro_rules | `(tactic| walk_at "M none") => `(tactic| fail "none")
local macro_rules | `(tactic| walk_at "M none") => `(tactic| fail "none")
local macro_rules | `(tactic| walk_at "M none") => `(tactic| fail "none")
local macro_rules | `(tactic| walk_at "M none") => `(tactic| fail "none")
local macro_rules | `(tactic| walk_at "M none") => `(tactic| fail "none")
local macro_rules | `(tactic| walk_at "M none") => `(tactic| fail "none")
local macro_rules | `(tactic| walk_at "M none") => `(tactic| fail "none")
local macro_rules | `(tactic| walk_at "M none") => `(tactic| fail "none")
local macro_rules | `(tactic| walk_at "M none") => `(tactic| fail "none")
local macro_rules | `(tactic| walk_at "M none") => `(tactic| fail "none")
local macro_rules | `(tactic| walk_at "M none") => `(tactic| fail "none")
local macro_rules | `(tactic| walk_at "M none") => `(tactic| fail "none")
local macro_rules | `(tactic| walk_at "M none") => `(tactic| fail "none")
local macro_rules | `(tactic| walk_at "M none") => `(tactic| fail "none")
local macro_rules | `(tactic| walk_at "M none") => `(tactic| fail "none")
local macro_rules | `(tactic| walk_at "M none") => `(tactic| fail "none")
local macro_rules | `(tactic| walk_at "M none") => `(tactic| fail "none")
local macro_rules | `(tactic| walk_at "M none") => `(tactic| fail "none")
local macro_rules | `(tactic| walk_at "M none") => `(tactic| fail "none")
local macro_rules | `(tactic| walk_at "M none") => `(tactic| fail "none")
local macro_rules | `(tactic| walk_at "M none") => `(tactic| fail "none")
local macro_rules | `(tactic| walk_at "M none") => `(tactic| fail "none")
local macro_rules | `(tactic| walk_at "M none") => `(tactic| fail "none")
local macro_rules | `(tactic| walk_at "M none") => `(tactic| fail "none")
local macro_rules | `(tactic| walk_at "M none") => `(tactic| fail "none")
local macro_rules | `(tactic| walk_at "M none") => `(tactic| fail "none")
local macro_rules | `(tactic| walk_at "M none") => `(tactic| fail "none")
local macro_rules | `(tactic| walk_at "M none") => `(tactic| fail "none")
local macro_rules | `(tactic| walk_at "M none") => `(tactic| fail "none")
local macro_rules | `(tactic| walk_at "M none") => `(tactic| fail "none")
local macro_rules | `(tactic| walk_at "M none") => `(tactic| fail "none")
local macro_rules | `(tactic| walk_at "M none") => `(tactic| fail "none")
local macro_rules | `(tactic| walk_at "M none") => `(tactic| fail "none")
local macro_rules | `(tactic| walk_at "M none") => `(tactic| fail "none")
local macro_rules | `(tactic| walk_at "M none") => `(tactic| fail "none")
local macro_rules | `(tactic| walk_at "M none") => `(tactic| fail "none")
local macro_rules | `(tactic| walk_at "M none") => `(tactic| fail "none")
local macro_rules | `(tactic| walk_at "M none") => `(tactic| fail "none")
local macro_rules | `(tactic| walk_at "M none") => `(tactic| fail "none")
local macro_rules | `(tactic| walk_at "M none") => `(tactic| fail "none")
local macro_rules | `(tactic| walk_at "M none") => `(tactic| fail "none")
local macro_rules | `(tactic| walk_at "M none") => `(tactic| fail "none")
local macro_rules | `(tactic| walk_at "M none") => `(tactic| fail "none")
local macro_rules | `(tactic| walk_at "M none") => `(tactic| fail "none")
local macro_rules | `(tactic| walk_at "M none") => `(tactic| fail "none")
local macro_rules | `(tactic| walk_at "M none") => `(tactic| fail "none")
local macro_rules | `(tactic| walk_at "M none") => `(tactic| fail "none")
local macro_rules | `(tactic| walk_at "M none") => `(tactic| fail "none")
local macro_rules | `(tactic| walk_at "M none") => `(tactic| fail "none")
local macro_rules | `(tactic| walk_at "M none") => `(tactic| fail "none")
local macro_rules | `(tactic| walk_at "M none") => `(tactic| fail "none")
local macro_rules | `(tactic| walk_at "M none") => `(tactic| fail "none")
local macro_rules | `(tactic| walk_at "M none") => `(tactic| fail "none")
local macro_rules | `(tactic| walk_at "M none") => `(tactic| fail "none")
local macro_rules | `(tactic| walk_at "M none") => `(tactic| fail "none")
local macro_rules | `(tactic| walk_at "M none") => `(tactic| fail "none")
local macro_rules | `(tactic| walk_at "M none") => `(tactic| fail "none")
local macro_rules | `(tactic| walk_at "M none") => `(tactic| fail "none")
local macro_rules | `(tactic| walk_at "M none") => `(tactic| fail "none")
local macro_rules | `(tactic| walk_at "M none") => `(tactic| fail "none")
local macro_rules | `(tactic| walk_at "M none") => `(tactic| fail "none")
local macro_rules | `(tactic| walk_at "M none") => `(tactic| fail "none")
local macro_rules | `(tactic| walk_at "M none") => `(tactic| fail "none")
local macro_rules | `(tactic| walk_at "M none") => `(tactic| fail "none")
local macro_rules | `(tactic| walk_at "M none") => `(tactic| fail "none")
local macro_rules | `(tactic| walk_at "M none") => `(tactic| fail "none")
local macro_rules | `(tactic| walk_at "M none") => `(tactic| fail "none")
local macro_rules | `(tactic| walk_at "M none") => `(tactic| fail "none")
local macro_rules | `(tactic| walk_at "M none") => `(tactic| fail "none")
local macro_rules | `(tactic| walk_at "M none") => `(tactic| fail "none")
local macro_rules | `(tactic| walk_at "M none") => `(tactic| fail "none")
local macro_rules | `(tactic| walk_at "M none") => `(tactic| fail "none")
local macro_rules | `(tactic| walk_at "M none") => `(tactic| fail "none")
local macro_rules | `(tactic| walk_at "M none") => `(tactic| fail "none")
local macro_rules | `(tactic| walk_at "M none") => `(tactic| fail "none")
local macro_rules | `(tactic| walk_at "M none") => `(tactic| fail "none")
local macro_rules | `(tactic| walk_at "M none") => `(tactic| fail "none")
local macro_rules | `(tactic| k_all) => `(tactic| assumption)
local macro_rules | `(tactic| walk_at "M enter") => `(tactic| (refine wpAny_call ?_; k_dflt (refine' code_def ?k1 ?k2 ?k3 ?k4 ?k5 ?kA ?kF ?kK ?k6 ?k7 ?k8 ?k9 ?kB ?_ ?c2 ?c3 ?c4 ?c5; (case kA => first | assumption | exact rfl); (case kF => assumption); (case kK => assumption); (case k1 => k_asm); (case k2 => k_asm); (case k3 => k_asm); (case k4 => k_asm); (case k5 => k_asm); (case k6 => k_is); (case k7 => k_is); (case k8 => first | omega | (dsimp only; omega)); (case k9 => exact BindsTo.of_eq rfl); (case c5 => decide); (case kB => exact locs rfl); (case c2 => exact rfl); (case c3 => exact rfl); (case c4 => exact rfl); k_whole)))
local macro_rules | `(tactic| walk_at "M enterT") => `(tactic| (refine wpAny_call ?_; k_dflt (refine' code_defT ?k1 ?k2 ?k3 ?k4 ?k5 ?kA ?kF ?kK ?k6 ?k7 ?k8 ?k9 ?kB ?_ ?c2 ?c3 ?c4 ?c5; (case kA => first | assumption | exact rfl); (case kF => assumption); (case kK => assumption); (case k1 => k_asm); (case k2 => k_asm); (case k3 => k_asm); (case k4 => k_asm); (case k5 => k_asm); (case k6 => k_is); (case k7 => k_is); (case k8 => first | omega | (dsimp only; omega)); (case k9 => exact BindsTo.of_eq rfl); (case c5 => decide); (case kB => exact locs rfl); (case c2 => exact rfl); (case c3 => exact rfl); (case c4 => exact rfl); k_whole)))
local macro_rules | `(tactic| walk_at "M open") => `(tactic| (rename Around => A9; rename (Around.frames _ = _) => hA9; rename (Around.handled _ = _) => hh9; revert hA9 hh9; rename (Around.depth _ + _ < _) => hd9; revert hd9; rename (Around.units _ + _ < _) => hu9; revert hu9; cases A9; dsimp only; intro hu9 hd9 hA9 hh9; subst hA9; subst hh9))
local macro_rules | `(tactic| walk_at "M noloop") => `(tactic| ((fail_if_success (with_reducible show wpAny _ _ (exec (Stmt.While _ _ _ _) _) _ _ _)); (fail_if_success (with_reducible show wpAny _ _ (exec (Stmt.For _ _ _ _ _) _) _ _ _)); (fail_if_success (with_reducible show LCg.CompSrc _ _ _ _ _ _ _ _ _ _ _ _ _ _)); (fail_if_success (with_reducible show wpAny _ _ (eval (PySem.Expr.ListComp _ _ _ _) _) _ _ _)); (fail_if_success (with_reducible show wpAny _ _ _ (fun it s₂ => PairAt3 _ _ _ _ _ _ _ _ _ _ it s₂) _ _))))
local macro_rules | `(tactic| walk_at "M go") => `(tactic| repeat' (walk_at "M noloop"; first | (k_unfold; (try dsimp only)) | (k_end; kc_close) | walk1 | (dsimp only; walk1) | (leave1; walk_say "STEP leave1"; (try dsimp only)) | fail "no step"))
local macro_rules | `(tactic| walk_at "And") => `(tactic| ((with_reducible show PySem.Str.length (_ ++ _) ≤ sizeLine ∧ wpAny _ _ (joinParts _ _) _ _ _); refine fs_and (by (simp only [len_mk, show Str.length Str.empty = 0 from rfl] at *); omega) ?_; intro zF hzF))
local macro_rules | `(tactic| walk_at "joinParts") => `(tactic| (first | (with_reducible show wpAny _ _ (joinParts _ []) _ _ _) | (with_reducible refine joinParts_nilE ?_)); refine fs_nil (by (simp only [len_mk, show Str.length Str.empty = 0 from rfl] at *); omega) ?_)
local macro_rules | `(tactic| walk_at "M enterC") => `(tactic| (refine wpAny_call ?_; k_dflt (refine' code_defC ?k1 ?k2 ?k3 ?k4 ?k5 ?kA ?kF ?kK ?k6 ?k7 ?k8 ?k9 ?kB ?kD ?_ ?c2 ?c3 ?c4; (case kA => first | assumption | exact rfl); (case kF => assumption); (case kK => assumption); (case k1 => k_asm); (case k2 => k_asm); (case k3 => k_asm); (case k4 => k_asm); (case k5 => k_asm); (case k6 => k_is); (case k7 => k_is); (case k8 => first | omega | (dsimp only; omega)); (case k9 => exact BindsTo.of_eq rfl); (case kB => exact rfl); (case kD => decide +kernel); (case c2 => exact rfl); (case c3 => exact rfl); (case c4 => exact rfl); k_whole)))
local macro_rules | `(tactic| walk_at "M next") => `(tactic| (k_here; (with_reducible show wpAny _ _ (call (Value.ref 105) [Value.ref _, Value.int _ _]) _ _ _); k_dflt (refine' next_u ?B ?F ?X ?N ?T ?hA ?hf ?hke ?hh ?hd ?hu ?hst ?hos ?U ?hsc ?m0 ?m1 ?_; (case hA => exact rfl); (case hf => exact rfl); (case hke => exact rfl); (case hh => exact rfl); (case B => k_asm); (case F => k_asm); (case X => k_asm); (case N => k_asm); (case T => k_asm); (case hst => assumption); (case hos => assumption); (case U => k_updF); (case hsc => k_mem); (case hd => ktr_room); (case hu => ktr_units); (case m0 => omega); (case m1 => omega)); intro r9 t9 o9 h9 tk9 hr0 hr1 hst9 F9 N9; (try dsimp only at N9)))
def cl (c : Nat) : Nat := if (65 ≤ c ∧ c ≤ 90) ∨ (97 ≤ c ∧ c ≤ 122) then 65 else if 48 ≤ c ∧ c ≤ 57 then 48 else c
def okSet (C : Array Nat) (j : Nat) : Bool :=
  (List.range 7).map (fun k => C.getD (j + k) 0) == [22, 65, 90, 22, 97, 122, 0] || (List.range 3).map (fun k => C.getD (j + k) 0) == [8, 10, 0] || C.getD j 0 == 3
def okAcc (C : Array Nat) (i : Nat) : Bool := match Sre.ops[C.getD i 0]? with
  | some .LITERAL => C.getD (i + 1) 0 == 36 || C.getD (i + 1) 0 == 58
  | some .IN => okSet C (i + 2)
  | some .NOT_LITERAL | some .LITERAL_IGNORE | some .NOT_LITERAL_IGNORE | some .LITERAL_UNI_IGNORE | some .NOT_LITERAL_UNI_IGNORE | some .IN_IGNORE | some .IN_UNI_IGNORE => false
  | _ => true
theorem dec_all : (List.range 123).all (fun c => Unicode.isDecimal c == decide (48 ≤ c ∧ c ≤ 57)) = true := by decide +kernel
theorem dec_of (c : Nat) (h : c < 123) : Unicode.isDecimal c = decide (48 ≤ c ∧ c ≤ 57) := by
  have := List.all_eq_true.mp dec_all c (List.mem_range.mpr h)
  exact beq_iff_eq.mp this
theorem cl_cases (c : Nat) : (((65 ≤ c ∧ c ≤ 90) ∨ (97 ≤ c ∧ c ≤ 122)) ∧ cl c = 65) ∨ ((48 ≤ c ∧ c ≤ 57) ∧ cl c = 48) ∨ (¬ ((65 ≤ c ∧ c ≤ 90) ∨ (97 ≤ c ∧ c ≤ 122)) ∧ ¬ (48 ≤ c ∧ c ≤ 57) ∧ cl c = c) := by
  unfold cl
  by_cases h1 : (65 ≤ c ∧ c ≤ 90) ∨ (97 ≤ c ∧ c ≤ 122)
  · rw [if_pos h1]; exact .inl ⟨h1, rfl⟩
  · rw [if_neg h1]
    by_cases h2 : 48 ≤ c ∧ c ≤ 57
    · rw [if_pos h2]; exact .inr (.inl ⟨h2, rfl⟩)
    · rw [if_neg h2]; exact .inr (.inr ⟨h1, h2, rfl⟩)
theorem add_add (s : Sre.Seen) (k : Nat) : (s.add k).add k = s.add k := by
  unfold Sre.Seen.add
  by_cases h : k < 43
  · simp only [h, if_true]; rw [Nat.or_assoc, Nat.or_self]
  · simp only [h, if_false]; rw [Nat.or_assoc, Nat.or_self]
theorem cat_dec (c : Nat) : Sre.category 10 c = .ok (Unicode.isDecimal c) := by
  simp [Sre.category, Except.map]
theorem set_cl {C : Array Nat} {j : Nat} (h : okSet C j = true) (c n : Nat) (s : Sre.Seen) : Sre.inSet C c (n + 3) j true s = Sre.inSet C (cl c) (n + 3) j true s := by
  unfold okSet at h
  simp only [Bool.or_eq_true, beq_iff_eq] at h
  rcases h with (h | h) | h
  · simp only [List.range, List.range.loop, List.map_cons, List.map_nil, List.cons.injEq, and_true] at h
    obtain ⟨h0, h1, h2, h3, h4, h5, h6⟩ := h
    rw [Nat.add_zero] at h0
    have e3 : j + 3 + 0 = j + 3 := rfl
    have e4 : j + 3 + 1 = j + 4 := rfl
    have e5 : j + 3 + 2 = j + 5 := rfl
    have e6 : j + 3 + 3 + 0 = j + 6 := rfl
    simp only [Sre.inSet, Nat.add_zero, e3, e4, e5, e6, h0, h1, h2, h3, h4, h5, h6, show Sre.ops[22]? = some .RANGE from rfl, show Sre.ops[0]? = some .FAILURE from rfl, add_add]
    rcases cl_cases c with ⟨hc, e⟩ | ⟨hc, e⟩ | ⟨_, _, e⟩
    · rw [e]
      rcases hc with hc | hc
      · simp [hc]
      · have : ¬ c ≤ 90 := by omega
        simp [hc, this]
    · rw [e]
      have a1 : ¬ 65 ≤ c := by omega
      have a2 : ¬ 97 ≤ c := by omega
      simp [a1, a2]
    · rw [e]
  · simp only [List.range, List.range.loop, List.map_cons, List.map_nil, List.cons.injEq, and_true] at h
    obtain ⟨h0, h1, h2⟩ := h
    rw [Nat.add_zero] at h0
    have hd : Sre.category 10 c = Sre.category 10 (cl c) := by
      rcases cl_cases c with ⟨hc, e⟩ | ⟨hc, e⟩ | ⟨_, _, e⟩
      · rw [e]
        rw [cat_dec, cat_dec, dec_of c (by omega), dec_of 65 (by omega), decide_eq_false (by omega : ¬ (48 ≤ c ∧ c ≤ 57)), decide_eq_false (by omega)]
      · rw [e]
        rw [cat_dec, cat_dec, dec_of c (by omega), dec_of 48 (by omega), decide_eq_true (by omega : 48 ≤ c ∧ c ≤ 57), decide_eq_true (by omega)]
      · rw [e]
    simp only [Sre.inSet, Nat.add_zero, h0, h1, h2, show Sre.ops[8]? = some .CATEGORY from rfl, show Sre.ops[0]? = some .FAILURE from rfl, hd]
  · simp only [Sre.inSet, Nat.add_zero, h, show Sre.ops[3]? = some .ANY_ALL from rfl]
theorem acc_cl {C : Array Nat} {i : Nat} (h : okAcc C i = true) (hs : 3 ≤ C.size) (c : Nat) (s : Sre.Seen) : Sre.accepts C i c s = Sre.accepts C i (cl c) s := by
  obtain ⟨n, hn⟩ : ∃ n, C.size = n + 3 := ⟨C.size - 3, by omega⟩
  unfold okAcc at h
  unfold Sre.accepts
  dsimp only
  rw [hn]
  cases ho : Sre.ops[C.getD i 0]? with
  | none => rfl
  | some op =>
    rw [ho] at h
    cases op <;> dsimp only at h ⊢
    all_goals first
      | rfl
      | (cases h; done)
      | exact set_cl h c n s
      | skip
    · rcases cl_cases c with ⟨hc, e⟩ | ⟨hc, e⟩ | ⟨_, _, e⟩
      · rw [e]
        have : (c != 10) = true := bne_iff_ne.mpr (by omega)
        rw [this]; rfl
      · rw [e]
        have : (c != 10) = true := bne_iff_ne.mpr (by omega)
        rw [this]; rfl
      · rw [e]
    · simp only [Bool.or_eq_true, beq_iff_eq] at h
      rcases cl_cases c with ⟨hc, e⟩ | ⟨hc, e⟩ | ⟨_, _, e⟩
      · rw [e]
        have a : (c == C.getD (i + 1) 0) = false := beq_eq_false_iff_ne.mpr (by omega)
        have b : (65 == C.getD (i + 1) 0) = false := beq_eq_false_iff_ne.mpr (by omega)
        rw [a, b]
      · rw [e]
        have a : (c == C.getD (i + 1) 0) = false := beq_eq_false_iff_ne.mpr (by omega)
        have b : (48 == C.getD (i + 1) 0) = false := beq_eq_false_iff_ne.mpr (by omega)
        rw [a, b]
      · rw [e]
/-- the code looks at a sign's kind only -/
def okCode (C : Array Nat) : Bool := decide (3 ≤ C.size) && C.getD 2 0 != 4 && (List.range C.size).all (fun i => okAcc C i && okWord C i)
theorem alike_of {C : Array Nat} (h : okCode C = true) (T : List Nat) : Alike C T.toArray (T.map cl).toArray := by
  unfold okCode at h
  simp only [Bool.and_eq_true, decide_eq_true_eq, bne_iff_ne, List.all_eq_true, List.mem_range] at h
  obtain ⟨⟨h1, h2⟩, h3⟩ := h
  have out : ∀ i, ¬ i < C.size → C.getD i 0 = 0 := fun i hi => by
    rw [Array.getD_eq_getD_getElem?, Array.getElem?_eq_none (by omega)]; rfl
  have get : ∀ p, (T.map cl).toArray.getD p 0 = cl (T.toArray.getD p 0) := fun p => by
    rw [Array.getD_eq_getD_getElem?, Array.getD_eq_getD_getElem?, List.getElem?_toArray, List.getElem?_toArray, List.getElem?_map]
    cases T[p]? with
    | none => rfl
    | some c => rfl
  refine ⟨fun i p s => ?_, fun p => ?_, fun i => ?_, h2⟩
  · rw [get]
    refine acc_cl ?_ h1 _ s
    by_cases hi : i < C.size
    · exact (h3 i hi).1
    · unfold okAcc; rw [out i hi]; rfl
  · rw [get]
    generalize T.toArray.getD p 0 = c
    rcases cl_cases c with ⟨hc, e⟩ | ⟨hc, e⟩ | ⟨_, _, e⟩
    · rw [e, beq_eq_false_iff_ne.mpr (by omega : c ≠ 10)]; rfl
    · rw [e, beq_eq_false_iff_ne.mpr (by omega : c ≠ 10)]; rfl
    · rw [e]
  · by_cases hi : i < C.size
    · exact (h3 i hi).2
    · unfold okWord; rw [out i hi]; rfl
end
section
theorem off_S2 : True := by
  w_top off
  trivial
local macro_rules | `(tactic| k_all) => `(tactic| assumption)
local macro_rules | `(tactic| walk_at "M enter") => `(tactic| (refine wpAny_call ?_; k_dflt (refine' code_def ?k1 ?k2 ?k3 ?k4 ?k5 ?kA ?kF ?kK ?k6 ?k7 ?k8 ?k9 ?kB ?_ ?c2 ?c3 ?c4 ?c5; (case kA => first | assumption | exact rfl); (case kF => assumption); (case kK => assumption); (case k1 => k_asm); (case k2 => k_asm); (case k3 => k_asm); (case k4 => k_asm); (case k5 => k_asm); (case k6 => k_is); (case k7 => k_is); (case k8 => first | omega | (dsimp only; omega)); (case k9 => exact BindsTo.of_eq rfl); (case c5 => decide); (case kB => exact locs rfl); (case c2 => exact rfl); (case c3 => exact rfl); (case c4 => exact rfl); k_whole)))
local macro_rules | `(tactic| walk_at "M enterT") => `(tactic| (refine wpAny_call ?_; k_dflt (refine' code_defT ?k1 ?k2 ?k3 ?k4 ?k5 ?kA ?kF ?kK ?k6 ?k7 ?k8 ?k9 ?kB ?_ ?c2 ?c3 ?c4 ?c5; (case kA => first | assumption | exact rfl); (case kF => assumption); (case kK => assumption); (case k1 => k_asm); (case k2 => k_asm); (case k3 => k_asm); (case k4 => k_asm); (case k5 => k_asm); (case k6 => k_is); (case k7 => k_is); (case k8 => first | omega | (dsimp only; omega)); (case k9 => exact BindsTo.of_eq rfl); (case c5 => decide); (case kB => exact locs rfl); (case c2 => exact rfl); (case c3 => exact rfl); (case c4 => exact rfl); k_whole)))
local macro_rules | `(tactic| walk_at "M open") => `(tactic| (rename Around => A9; rename (Around.frames _ = _) => hA9; rename (Around.handled _ = _) => hh9; revert hA9 hh9; rename (Around.depth _ + _ < _) => hd9; revert hd9; rename (Around.units _ + _ < _) => hu9; revert hu9; cases A9; dsimp only; intro hu9 hd9 hA9 hh9; subst hA9; subst hh9))
local macro_rules | `(tactic| walk_at "M noloop") => `(tactic| ((fail_if_success (with_reducible show wpAny _ _ (exec (Stmt.While _ _ _ _) _) _ _ _)); (fail_if_success (with_reducible show wpAny _ _ (exec (Stmt.For _ _ _ _ _) _) _ _ _)); (fail_if_success (with_reducible show LCg.CompSrc _ _ _ _ _ _ _ _ _ _ _ _ _ _)); (fail_if_success (with_reducible show wpAny _ _ (eval (PySem.Expr.ListComp _ _ _ _) _) _ _ _)); (fail_if_success (with_reducible show wpAny _ _ _ (fun it s₂ => PairAt3 _ _ _ _ _ _ _ _ _ _ it s₂) _ _))))
local macro_rules | `(tactic| walk_at "M go") => `(tactic| repeat' (walk_at "M noloop"; first | (k_unfold; (try dsimp only)) | (k_end; kc_close) | walk1 | (dsimp only; walk1) | (leave1; walk_say "STEP leave1"; (try dsimp only)) | fail "no step"))
local macro_rules | `(tactic| walk_at "And") => `(tactic| ((with_reducible show PySem.Str.length (_ ++ _) ≤ sizeLine ∧ wpAny _ _ (joinParts _ _) _ _ _); refine fs_and (by (simp only [len_mk, show Str.length Str.empty = 0 from rfl] at *); omega) ?_; intro zF hzF))
local macro_rules | `(tactic| walk_at "joinParts") => `(tactic| (first | (with_reducible show wpAny _ _ (joinParts _ []) _ _ _) | (with_reducible refine joinParts_nilE ?_)); refine fs_nil (by (simp only [len_mk, show Str.length Str.empty = 0 from rfl] at *); omega) ?_)
local macro_rules | `(tactic| walk_at "M enterC") => `(tactic| (refine wpAny_call ?_; k_dflt (refine' code_defC ?k1 ?k2 ?k3 ?k4 ?k5 ?kA ?kF ?kK ?k6 ?k7 ?k8 ?k9 ?kB ?kD ?_ ?c2 ?c3 ?c4; (case kA => first | assumption | exact rfl); (case kF => assumption); (case kK => assumption); (case k1 => k_asm); (case k2 => k_asm); (case k3 => k_asm); (case k4 => k_asm); (case k5 => k_asm); (case k6 => k_is); (case k7 => k_is); (case k8 => first | omega | (dsimp only; omega)); (case k9 => exact BindsTo.of_eq rfl); (case kB => exact rfl); (case kD => decide +kernel); (case c2 => exact rfl); (case c3 => exact rfl); (case c4 => exact rfl); k_whole)))
local macro_rules | `(tactic| walk_at "M next") => `(tactic| (k_here; (with_reducible show wpAny _ _ (call (Value.ref 105) [Value.ref _, Value.int _ _]) _ _ _); k_dflt (refine' next_u ?B ?F ?X ?N ?T ?hA ?hf ?hke ?hh ?hd ?hu ?hst ?hos ?U ?hsc ?m0 ?m1 ?_; (case hA => exact rfl); (case hf => exact rfl); (case hke => exact rfl); (case hh => exact rfl); (case B => k_asm); (case F => k_asm); (case X => k_asm); (case N => k_asm); (case T => k_asm); (case hst => assumption); (case hos => assumption); (case U => k_updF); (case hsc => k_mem); (case hd => ktr_room); (case hu => ktr_units); (case m0 => omega); (case m1 => omega)); intro r9 t9 o9 h9 tk9 hr0 hr1 hst9 F9 N9; (try dsimp only at N9)))
def coordC : Array Nat := #[14, 4, 0, 2, 4294967295, 6, 0, 24, 6, 0, 1, 16, 36, 1, 17, 0, 24, 13, 1, 3, 13, 8, 22, 65, 90, 22, 97, 122, 0, 1, 17, 1, 24, 6, 0, 1, 16, 36, 1, 17, 2, 24, 9, 1, 4294967295, 13, 4, 8, 10, 0, 1, 17, 3, 6, 5, 1]
def absC : Array Nat := #[14, 4, 0, 0, 4294967295, 6, 0, 24, 6, 0, 1, 16, 36, 1, 23, 21, 0, 1, 17, 0, 24, 13, 1, 3, 13, 8, 22, 65, 90, 22, 97, 122, 0, 1, 17, 1, 18, 24, 6, 0, 1, 16, 36, 1, 23, 17, 0, 1, 17, 2, 24, 9, 1, 4294967295, 13, 4, 8, 10, 0, 1, 17, 3, 18, 23, 65, 0, 1, 17, 4, 16, 58, 24, 6, 0, 1, 16, 36, 1, 23, 21, 0, 1, 17, 6, 24, 13, 1, 3, 13, 8, 22, 65, 90, 22, 97, 122, 0, 1, 17, 7, 18, 24, 6, 0, 1, 16, 36, 1, 23, 17, 0, 1, 17, 8, 24, 9, 1, 4294967295, 13, 4, 8, 10, 0, 1, 17, 9, 18, 17, 5, 18, 6, 5, 1]
theorem coord_ok : okCode coordC = true := by decide +kernel
theorem abs_ok : okCode absC = true := by decide +kernel
theorem forMatch_re {C T T' : Array Nat} (g lim : Nat) : Rl C T T' (Sre.forMatch C T g 0 lim false false) (Sre.forMatch C T' g 0 lim false false) := by
  unfold Sre.forMatch
  dsimp only
  refine ite_re ?_ ?_ <;> exact ⟨rfl, rfl, rfl⟩
def runC (C : Array Nat) (g : Nat) (T : List Nat) (n : Nat) : Sre.M := (Sre.forMatch C T.toArray g 0 T.length false false).runFor n
theorem runC_re {C : Array Nat} (h : okCode C = true) (g : Nat) (T : List Nat) (n : Nat) : Rl C T.toArray (T.map cl).toArray (runC C g T n) (runC C g (T.map cl) n) := by
  unfold runC
  rw [List.length_map]
  exact runFor_re (alike_of h T) n (forMatch_re g T.length)
/-- the run ends in a match with these marks -/
structure Hit (m : Sre.M) (handed : Nat) (marks : Array (Option Nat)) : Prop where
  out : m.outcome = some .matched
  start : m.start = 0
  handed : m.handed = handed
  marks : m.marks = marks
  lastmark : m.lastmark = 3
  lastindex : m.lastindex = 2
def isM : Option Sre.Outcome → Bool
  | some .matched => true
  | _ => false
theorem isM_of {o : Option Sre.Outcome} (h : isM o = true) : o = some .matched := by
  unfold isM at h
  split at h
  · rfl
  · cases h
def isF : Option Sre.Outcome → Bool
  | some .failed => true
  | _ => false
theorem isF_of {o : Option Sre.Outcome} (h : isF o = true) : o = some .failed := by
  unfold isF at h
  split at h
  · rfl
  · cases h
def hitB (m : Sre.M) (handed : Nat) (marks : Array (Option Nat)) : Bool := isM m.outcome && m.start == 0 && m.handed == handed && m.marks == marks && m.lastmark == 3 && m.lastindex == 2
theorem hit_of {m : Sre.M} {handed : Nat} {marks : Array (Option Nat)} (h : hitB m handed marks = true) : Hit m handed marks := by
  unfold hitB at h
  simp only [Bool.and_eq_true, beq_iff_eq] at h
  obtain ⟨⟨⟨⟨⟨a, b⟩, c⟩, d⟩, e⟩, f⟩ := h
  exact ⟨isM_of a, b, c, d, e, f⟩
theorem Hit.re {C T T' : Array Nat} {m m' : Sre.M} (R : Rl C T T' m m') {x : Nat} {y : Array (Option Nat)} (h : Hit m' x y) : Hit m x y := by
  obtain ⟨_, _, rfl⟩ := R
  exact ⟨h.out, h.start, h.handed, h.marks, h.lastmark, h.lastindex⟩
def mk1 (a : Bool) : List Nat := if a then [36] else []
/-- the kinds of a place's signs -/
def place0 (a b : Bool) (n k : Nat) : List Nat := mk1 a ++ List.replicate n 65 ++ mk1 b ++ List.replicate k 48
def coordM (a b : Bool) (n k : Nat) : Array (Option Nat) := #[some (mk1 a).length, some ((mk1 a).length + n), some ((mk1 a).length + n + (mk1 b).length), some ((mk1 a).length + n + (mk1 b).length + k)]
def absM (a b : Bool) (n k : Nat) : Array (Option Nat) := coordM a b n k ++ #[some ((mk1 a).length + n + (mk1 b).length + k), none, none, none, none, none]
theorem coord_hits_tt : ∀ n ∈ [1, 2, 3], ∀ k ∈ [1, 2, 7], hitB (runC coordC 2 (place0 true true n k) 16) (place0 true true n k).length (coordM true true n k) = true := by decide +kernel
theorem coord_hits_tf : ∀ n ∈ [1, 2, 3], ∀ k ∈ [1, 2, 7], hitB (runC coordC 2 (place0 true false n k) 16) (place0 true false n k).length (coordM true false n k) = true := by decide +kernel
theorem coord_hits_ft : ∀ n ∈ [1, 2, 3], ∀ k ∈ [1, 2, 7], hitB (runC coordC 2 (place0 false true n k) 16) (place0 false true n k).length (coordM false true n k) = true := by decide +kernel
theorem coord_hits_ff : ∀ n ∈ [1, 2, 3], ∀ k ∈ [1, 2, 7], hitB (runC coordC 2 (place0 false false n k) 16) (place0 false false n k).length (coordM false false n k) = true := by decide +kernel
theorem coord_hits : ∀ a b : Bool, ∀ n ∈ [1, 2, 3], ∀ k ∈ [1, 2, 7], hitB (runC coordC 2 (place0 a b n k) 16) (place0 a b n k).length (coordM a b n k) = true := fun a b => match a, b with
  | true, true => coord_hits_tt
  | true, false => coord_hits_tf
  | false, true => coord_hits_ft
  | false, false => coord_hits_ff
theorem abs_hits_tt : ∀ n ∈ [1, 2, 3], ∀ k ∈ [1, 2, 7], hitB (runC absC 5 (place0 true true n k) 36) (place0 true true n k).length (absM true true n k) = true := by decide +kernel
theorem abs_hits_tf : ∀ n ∈ [1, 2, 3], ∀ k ∈ [1, 2, 7], hitB (runC absC 5 (place0 true false n k) 36) (place0 true false n k).length (absM true false n k) = true := by decide +kernel
theorem abs_hits_ft : ∀ n ∈ [1, 2, 3], ∀ k ∈ [1, 2, 7], hitB (runC absC 5 (place0 false true n k) 36) (place0 false true n k).length (absM false true n k) = true := by decide +kernel
theorem abs_hits_ff : ∀ n ∈ [1, 2, 3], ∀ k ∈ [1, 2, 7], hitB (runC absC 5 (place0 false false n k) 36) (place0 false false n k).length (absM false false n k) = true := by decide +kernel
theorem abs_hits : ∀ a b : Bool, ∀ n ∈ [1, 2, 3], ∀ k ∈ [1, 2, 7], hitB (runC absC 5 (place0 a b n k) 36) (place0 a b n k).length (absM a b n k) = true := fun a b => match a, b with
  | true, true => abs_hits_tt
  | true, false => abs_hits_tf
  | false, true => abs_hits_ft
  | false, false => abs_hits_ff
theorem fail_0 : isF (runC coordC 2 [] 60).outcome = true := by decide +kernel
theorem fail_1 : ∀ n ∈ [1, 2, 3], isF (runC coordC 2 (List.replicate n 65) 60).outcome = true := by decide +kernel
theorem fail_2 : ∀ k ∈ [1, 2, 7], isF (runC coordC 2 (List.replicate k 48) 60).outcome = true := by decide +kernel
theorem fail_3_tt : ∀ n ∈ [1, 2, 3], ∀ k ∈ [1, 2, 7], isF (runC coordC 2 (place0 true true n k ++ [65]) 60).outcome = true := by decide +kernel
theorem fail_3_tf : ∀ n ∈ [1, 2, 3], ∀ k ∈ [1, 2, 7], isF (runC coordC 2 (place0 true false n k ++ [65]) 60).outcome = true := by decide +kernel
theorem fail_3_ft : ∀ n ∈ [1, 2, 3], ∀ k ∈ [1, 2, 7], isF (runC coordC 2 (place0 false true n k ++ [65]) 60).outcome = true := by decide +kernel
theorem fail_3_ff : ∀ n ∈ [1, 2, 3], ∀ k ∈ [1, 2, 7], isF (runC coordC 2 (place0 false false n k ++ [65]) 60).outcome = true := by decide +kernel
theorem fail_3 : ∀ a b : Bool, ∀ n ∈ [1, 2, 3], ∀ k ∈ [1, 2, 7], isF (runC coordC 2 (place0 a b n k ++ [65]) 60).outcome = true := fun a b => match a, b with
  | true, true => fail_3_tt
  | true, false => fail_3_tf
  | false, true => fail_3_ft
  | false, false => fail_3_ff
theorem fail_4 : ∀ n ∈ [1, 2, 3], ∀ k ∈ [1, 2, 7], isF (runC coordC 2 ([36, 36] ++ List.replicate n 65 ++ List.replicate k 48) 60).outcome = true := by decide +kernel
theorem fail_5 : ∀ n ∈ [1, 2, 3], isF (runC coordC 2 (List.replicate n 65 ++ [65, 48, 65]) 60).outcome = true := by decide +kernel
def Letters (x : List Nat) : Prop := 1 ≤ x.length ∧ x.length ≤ 3 ∧ ∀ c ∈ x, (65 ≤ c ∧ c ≤ 90) ∨ (97 ≤ c ∧ c ≤ 122)
def Digits (d : List Nat) : Prop := d.length ∈ [1, 2, 7] ∧ ∀ c ∈ d, 48 ≤ c ∧ c ≤ 57
theorem map_cl_all {x : List Nat} {v : Nat} (h : ∀ c ∈ x, cl c = v) : x.map cl = List.replicate x.length v := by
  induction x with
  | nil => rfl
  | cons c r ih =>
    rw [List.map_cons, h c (.head _), ih fun d hd => h d (.tail _ hd)]
    rfl
theorem Letters.map {x : List Nat} (h : Letters x) : x.map cl = List.replicate x.length 65 := map_cl_all fun c hc => by
  unfold cl; rw [if_pos (h.2.2 c hc)]
theorem Digits.map {x : List Nat} (h : Digits x) : x.map cl = List.replicate x.length 48 := map_cl_all fun c hc => by
  have := h.2 c hc
  unfold cl; rw [if_neg (by omega), if_pos this]
theorem Letters.len {x : List Nat} (h : Letters x) : x.length ∈ [1, 2, 3] := by
  obtain ⟨a, b, _⟩ := h
  simp only [List.mem_cons, List.not_mem_nil, or_false]; omega
theorem mk1_map (a : Bool) : (mk1 a).map cl = mk1 a := by cases a <;> rfl
/-- the text of a place -/
def placeL (a b : Bool) (x d : List Nat) : List Nat := mk1 a ++ x ++ mk1 b ++ d
theorem placeL_map {a b : Bool} {x d : List Nat} (hx : Letters x) (hd : Digits d) : (placeL a b x d).map cl = place0 a b x.length d.length := by
  simp only [placeL, place0, List.map_append, mk1_map, hx.map, hd.map]
theorem placeL_len {a b : Bool} {x d : List Nat} : (place0 a b x.length d.length).length = (placeL a b x d).length := by
  simp [placeL, place0]
theorem coord_hit {a b : Bool} {x d : List Nat} (hx : Letters x) (hd : Digits d) : Hit (runC coordC 2 (placeL a b x d) 16) (placeL a b x d).length (coordM a b x.length d.length) := by
  refine Hit.re (runC_re coord_ok 2 (placeL a b x d) 16) ?_
  rw [placeL_map hx hd, ← placeL_len]
  exact hit_of (coord_hits a b _ hx.len _ hd.1)
theorem abs_hit {a b : Bool} {x d : List Nat} (hx : Letters x) (hd : Digits d) : Hit (runC absC 5 (placeL a b x d) 36) (placeL a b x d).length (absM a b x.length d.length) := by
  refine Hit.re (runC_re abs_ok 5 (placeL a b x d) 36) ?_
  rw [placeL_map hx hd, ← placeL_len]
  exact hit_of (abs_hits a b _ hx.len _ hd.1)
theorem fail_of {T : List Nat} {n : Nat} (h : isF (runC coordC 2 (T.map cl) n).outcome = true) : (runC coordC 2 T n).outcome = some .failed := by
  have R := runC_re coord_ok 2 T n
  generalize runC coordC 2 (T.map cl) n = m' at R h
  obtain ⟨_, _, rfl⟩ := R
  exact isF_of h
/-- the texts that are no place -/
inductive NoPlace : List Nat → Prop
  | nil : NoPlace []
  | letters {x : List Nat} : Letters x → NoPlace x
  | digits {d : List Nat} : Digits d → NoPlace d
  | more {a b : Bool} {x d : List Nat} : Letters x → Digits d → NoPlace (placeL a b x d ++ [120])
  | marks {x d : List Nat} : Letters x → Digits d → NoPlace ([36, 36] ++ x ++ d)
  | between {x : List Nat} : Letters x → NoPlace (x ++ [65, 49, 66])
theorem NoPlace.fails {T : List Nat} (h : NoPlace T) : (runC coordC 2 T 60).outcome = some .failed := by
  refine fail_of ?_
  cases h with
  | nil => exact fail_0
  | letters hx => rw [hx.map]; exact fail_1 _ hx.len
  | digits hd => rw [hd.map]; exact fail_2 _ hd.1
  | more hx hd => rw [List.map_append, placeL_map hx hd]; exact fail_3 _ _ _ hx.len _ hd.1
  | marks hx hd => rw [List.map_append, List.map_append, hx.map, hd.map]; exact fail_4 _ hx.len _ hd.1
  | between hx => rw [List.map_append, hx.map]; exact fail_5 _ hx.len
end
section
theorem off_S3 : True := by
  w_top off
  trivial
local macro_rules | `(tactic| walk_at "M none") => `(tactic| fail "none")
local macro_rules | `(tactic| walk_at "M none") => `(tactic| fail "none")
local macro_rules | `(tactic| walk_at "M none") => `(tactic| fail "none")
local macro_rules | `(tactic| walk_at "M none") => `(tactic| fail "none")
local macro_rules | `(tactic| walk_at "M none") => `(tactic| fail "none")
local macro_rules | `(tactic| walk_at "M none") => `(tactic| fail "none")
local macro_rules | `(tactic| walk_at "M none") => `(tactic| fail "none")
local macro_rules | `(tactic| walk_at "M none") => `(tactic| fail "none")
local macro_rules | `(tactic| walk_at "M none") => `(tactic| fail "none")
local macro_rules | `(tactic| walk_at "M none") => `(tactic| fail "none")
local macro_rules | `(tactic| walk_at "M none") => `(tactic| fail "none")
local macro_rules | `(tactic| walk_at "M none") => `(tactic| fail "none")
local macro_rules | `(tactic| walk_at "M none") => `(tactic| fail "none")
local macro_rules | `(tactic| walk_at "M none") => `(tactic| fail "none")
local macro_rules | `(tactic| walk_at "M none") => `(tactic| fail "none")
local macro_rules | `(tactic| walk_at "M none") => `(tactic| fail "none")
local macro_rules | `(tactic| walk_at "M none") => `(tactic| fail "none")
local macro_rules | `(tactic| walk_at "M none") => `(tactic| fail "none")
local macro_rules | `(tactic| walk_at "M none") => `(tactic| fail "none")
local macro_rules | `(tactic| walk_at "M none") => `(tactic| fail "none")
local macro_rules | `(tactic| walk_at "M none") => `(tactic| fail "none")
local macro_rules | `(tactic| walk_at "M none") => `(tactic| fail "none")
local macro_rules | `(tactic| walk_at "M none") => `(tactic| fail "none")
local macro_rules | `(tactic| walk_at "M none") => `(tactic| fail "none")
local macro_rules | `(tactic| walk_at "M none") => `(tactic| fail "none")
local macro_rules | `(tactic| walk_at "M none") => `(tactic| fail "none")
local macro_rules | `(tactic| walk_at "M none") => `(tactic| fail "none")
local macro_rules | `(tactic| walk_at "M none") => `(tactic| fail "none")
local macro_rules | `(tactic| walk_at "M none") => `(tactic| fail "none")
local macro_rules | `(tactic| walk_at "M none") => `(tactic| fail "none")
local macro_rules | `(tactic| k_all) => `(tactic| assumption)
local macro_rules | `(tactic| walk_at "M enter") => `(tactic| (refine wpAny_call ?_; k_dflt (refine' code_def ?k1 ?k2 ?k3 ?k4 ?k5 ?kA ?kF ?kK ?k6 ?k7 ?k8 ?k9 ?kB ?_ ?c2 ?c3 ?c4 ?c5; (case kA => first | assumption | exact rfl); (case kF => assumption); (case kK => assumption); (case k1 => k_asm); (case k2 => k_asm); (case k3 => k_asm); (case k4 => k_asm); (case k5 => k_asm); (case k6 => k_is); (case k7 => k_is); (case k8 => first | omega | (dsimp only; omega)); (case k9 => exact BindsTo.of_eq rfl); (case c5 => decide); (case kB => exact locs rfl); (case c2 => exact rfl); (case c3 => exact rfl); (case c4 => exact rfl); k_whole)))
local macro_rules | `(tactic| walk_at "M enterT") => `(tactic| (refine wpAny_call ?_; k_dflt (refine' code_defT ?k1 ?k2 ?k3 ?k4 ?k5 ?kA ?kF ?kK ?k6 ?k7 ?k8 ?k9 ?kB ?_ ?c2 ?c3 ?c4 ?c5; (case kA => first | assumption | exact rfl); (case kF => assumption); (case kK => assumption); (case k1 => k_asm); (case k2 => k_asm); (case k3 => k_asm); (case k4 => k_asm); (case k5 => k_asm); (case k6 => k_is); (case k7 => k_is); (case k8 => first | omega | (dsimp only; omega)); (case k9 => exact BindsTo.of_eq rfl); (case c5 => decide); (case kB => exact locs rfl); (case c2 => exact rfl); (case c3 => exact rfl); (case c4 => exact rfl); k_whole)))
local macro_rules | `(tactic| walk_at "M open") => `(tactic| (rename Around => A9; rename (Around.frames _ = _) => hA9; rename (Around.handled _ = _) => hh9; revert hA9 hh9; rename (Around.depth _ + _ < _) => hd9; revert hd9; rename (Around.units _ + _ < _) => hu9; revert hu9; cases A9; dsimp only; intro hu9 hd9 hA9 hh9; subst hA9; subst hh9))
local macro_rules | `(tactic| walk_at "M noloop") => `(tactic| ((fail_if_success (with_reducible show wpAny _ _ (exec (Stmt.While _ _ _ _) _) _ _ _)); (fail_if_success (with_reducible show wpAny _ _ (exec (Stmt.For _ _ _ _ _) _) _ _ _)); (fail_if_success (with_reducible show LCg.CompSrc _ _ _ _ _ _ _ _ _ _ _ _ _ _)); (fail_if_success (with_reducible show wpAny _ _ (eval (PySem.Expr.ListComp _ _ _ _) _) _ _ _)); (fail_if_success (with_reducible show wpAny _ _ _ (fun it s₂ => PairAt3 _ _ _ _ _ _ _ _ _ _ it s₂) _ _))))
local macro_rules | `(tactic| walk_at "M go") => `(tactic| repeat' (walk_at "M noloop"; first | (k_unfold; (try dsimp only)) | (k_end; kc_close) | walk1 | (dsimp only; walk1) | (leave1; walk_say "STEP leave1"; (try dsimp only)) | fail "no step"))
local macro_rules | `(tactic| walk_at "And") => `(tactic| ((with_reducible show PySem.Str.length (_ ++ _) ≤ sizeLine ∧ wpAny _ _ (joinParts _ _) _ _ _); refine fs_and (by (simp only [len_mk, show Str.length Str.empty = 0 from rfl] at *); omega) ?_; intro zF hzF))
local macro_rules | `(tactic| walk_at "joinParts") => `(tactic| (first | (with_reducible show wpAny _ _ (joinParts _ []) _ _ _) | (with_reducible refine joinParts_nilE ?_)); refine fs_nil (by (simp only [len_mk, show Str.length Str.empty = 0 from rfl] at *); omega) ?_)
local macro_rules | `(tactic| walk_at "M enterC") => `(tactic| (refine wpAny_call ?_; k_dflt (refine' code_defC ?k1 ?k2 ?k3 ?k4 ?k5 ?kA ?kF ?kK ?k6 ?k7 ?k8 ?k9 ?kB ?kD ?_ ?c2 ?c3 ?c4; (case kA => first | assumption | exact rfl); (case kF => assumption); (case kK => assumption); (case k1 => k_asm); (case k2 => k_asm); (case k3 => k_asm); (case k4 => k_asm); (case k5 => k_asm); (case k6 => k_is); (case k7 => k_is); (case k8 => first | omega | (dsimp only; omega)); (case k9 => exact BindsTo.of_eq rfl); (case kB => exact rfl); (case kD => decide +kernel); (case c2 => exact rfl); (case c3 => exact rfl); (case c4 => exact rfl); k_whole)))
local macro_rules | `(tactic| walk_at "M next") => `(tactic| (k_here; (with_reducible show wpAny _ _ (call (Value.ref 105) [Value.ref _, Value.int _ _]) _ _ _); k_dflt (refine' next_u ?B ?F ?X ?N ?T ?hA ?hf ?hke ?hh ?hd ?hu ?hst ?hos ?U ?hsc ?m0 ?m1 ?_; (case hA => exact rfl); (case hf => exact rfl); (case hke => exact rfl); (case hh => exact rfl); (case B => k_asm); (case F => k_asm); (case X => k_asm); (case N => k_asm); (case T => k_asm); (case hst => assumption); (case hos => assumption); (case U => k_updF); (case hsc => k_mem); (case hd => ktr_room); (case hu => ktr_units); (case m0 => omega); (case m1 => omega)); intro r9 t9 o9 h9 tk9 hr0 hr1 hst9 F9 N9; (try dsimp only at N9)))
theorem plainAttrs_rePat : PlainAttrs "re.Pattern" :=
  ⟨⟨"object.__getattribute__", by rw [typeLookup_type, builtinLookup_eq_fast]; kernel_rfl, by decide +kernel⟩, by rw [typeLookup_type, builtinLookup_eq_fast]; kernel_rfl⟩
theorem plainAttrs_reMatch : PlainAttrs "re.Match" :=
  ⟨⟨"object.__getattribute__", by rw [typeLookup_type, builtinLookup_eq_fast]; kernel_rfl, by decide +kernel⟩, by rw [typeLookup_type, builtinLookup_eq_fast]; kernel_rfl⟩
theorem owner_rePat : Manifest.owners.lookup (String.ofList ['n', 'r', 'e', 't', 't', 'a', 'P', '.', 'e', 'r'].reverse) = some Manifest.sig_re_Pattern := by kernel_rfl
theorem owner_reMatch : Manifest.owners.lookup (String.ofList ['h', 'c', 't', 'a', 'M', '.', 'e', 'r'].reverse) = some Manifest.sig_re_Match := by kernel_rfl
theorem slot_pat_match : Slot "re.Pattern" "match" "re.Pattern.match" :=
  .of (owner := "re.Pattern") (n := "match") (by rw [typeLookup_type, builtinLookup_eq_fast]; kernel_rfl) (by decide +kernel) (by decide +kernel) (by decide +kernel)
    (by first | exact .inl (by decide +kernel) | exact .inr (by decide +kernel)) (by rw [isSubtype_type]; kernel_rfl)
theorem slot_mt_groups : Slot "re.Match" "groups" "re.Match.groups" :=
  .of (owner := "re.Match") (n := "groups") (by rw [typeLookup_type, builtinLookup_eq_fast]; kernel_rfl) (by decide +kernel) (by decide +kernel) (by decide +kernel)
    (by first | exact .inl (by decide +kernel) | exact .inr (by decide +kernel)) (by rw [isSubtype_type]; kernel_rfl)
theorem slot_mt_groupdict : Slot "re.Match" "groupdict" "re.Match.groupdict" :=
  .of (owner := "re.Match") (n := "groupdict") (by rw [typeLookup_type, builtinLookup_eq_fast]; kernel_rfl) (by decide +kernel) (by decide +kernel) (by decide +kernel)
    (by first | exact .inl (by decide +kernel) | exact .inr (by decide +kernel)) (by rw [isSubtype_type]; kernel_rfl)
theorem type_pat_match : typeOf (.builtin "re.Pattern.match") = pure (.type "method_descriptor") := by show builtinType _ = _; rw [builtinType_eq_fast]; kernel_rfl
theorem type_mt_groups : typeOf (.builtin "re.Match.groups") = pure (.type "method_descriptor") := by show builtinType _ = _; rw [builtinType_eq_fast]; kernel_rfl
theorem type_mt_groupdict : typeOf (.builtin "re.Match.groupdict") = pure (.type "method_descriptor") := by show builtinType _ = _; rw [builtinType_eq_fast]; kernel_rfl
theorem entry_pat_match : entryFor table "re.Pattern.match" = some Builtin.«re.Pattern.match» := entryFor_of_tree (by kernel_rfl)
theorem entry_mt_groups : entryFor table "re.Match.groups" = some Builtin.«re.Match.groups» := entryFor_of_tree (by kernel_rfl)
theorem entry_mt_groupdict : entryFor table "re.Match.groupdict" = some Builtin.«re.Match.groupdict» := entryFor_of_tree (by kernel_rfl)
theorem args_pat_match (a b : Value) : argsOk "re.Pattern.match" ⟨[a, b], []⟩ := by
  unfold argsOk; rw [signature?_of (id := "re.Pattern.match") (n := ['h', 'c', 't', 'a', 'm']) (o := ['n', 'r', 'e', 't', 't', 'a', 'P', '.', 'e', 'r']) (by kernel_rfl) owner_rePat]; kernel_rfl
theorem args_mt_groups (a : Value) : argsOk "re.Match.groups" ⟨[a], []⟩ := by
  unfold argsOk; rw [signature?_of (id := "re.Match.groups") (n := ['s', 'p', 'u', 'o', 'r', 'g']) (o := ['h', 'c', 't', 'a', 'M', '.', 'e', 'r']) (by kernel_rfl) owner_reMatch]; kernel_rfl
theorem args_mt_groupdict (a b : Value) : argsOk "re.Match.groupdict" ⟨[a, b], []⟩ := by
  unfold argsOk; rw [signature?_of (id := "re.Match.groupdict") (n := ['t', 'c', 'i', 'd', 'p', 'u', 'o', 'r', 'g']) (o := ['h', 'c', 't', 'a', 'M', '.', 'e', 'r']) (by kernel_rfl) owner_reMatch]; kernel_rfl
theorem nobool_mt : typeLookup (.type "re.Match") "__bool__" = pure none := by rw [typeLookup_type, builtinLookup_eq_fast]; kernel_rfl
theorem nolen_mt : typeLookup (.type "re.Match") "__len__" = pure none := by rw [typeLookup_type, builtinLookup_eq_fast]; kernel_rfl
section
open PySem.Builtin.Re
variable {prog : Program} {w : World} {A : Around} {E : Value → Shared → Prop} {s : Shared}
theorem runFor_succ (n : Nat) (m : Sre.M) : m.runFor (n + 1) = if m.outcome.isSome = true then m else m.step.runFor n := rfl
theorem runFor_done {m : Sre.M} (h : m.outcome.isSome = true) (n : Nat) : m.runFor n = m := by
  cases n with
  | zero => rfl
  | succ n => rw [runFor_succ, if_pos h]
theorem runFor_add (k : Nat) : ∀ (n : Nat) (m : Sre.M), (m.runFor n).runFor k = m.runFor (n + k)
  | 0, m => by rw [Nat.zero_add]; rfl
  | n + 1, m => by
    rw [show n + 1 + k = (n + k) + 1 by omega, runFor_succ, runFor_succ]
    by_cases h : m.outcome.isSome = true
    · rw [if_pos h, if_pos h, runFor_done h]
    · rw [if_neg h, if_neg h]
      exact runFor_add k n m.step
theorem reDrive_of {Q : Sre.M → Shared → Prop} : ∀ (k : Nat) (m : Sre.M) (T : Nat), ((m.runFor (4 * k)).outcome).isSome = true → Q (m.runFor (4 * k)) s → wpAny (model prog w) A (reDrive (T + 1 + k) m) Q E s
  | 0, m, T, h, q => by
    have h' : m.outcome.isSome = true := h
    have q' : Q m s := q
    show wpAny _ _ (if (m.runFor reTurnSteps).outcome.isSome = true then pure (m.runFor reTurnSteps) else _) _ _ _
    rw [runFor_done h', if_pos h']
    exact wpAny_pure q'
  | k + 1, m, T, h, q => by
    have e : (m.runFor 4).runFor (4 * k) = m.runFor (4 * (k + 1)) := by rw [runFor_add]; congr 1; omega
    show wpAny _ _ (if (m.runFor reTurnSteps).outcome.isSome = true then pure (m.runFor reTurnSteps) else _) _ _ _
    by_cases h1 : (m.runFor 4).outcome.isSome = true
    · rw [show reTurnSteps = 4 from rfl, if_pos h1]
      refine wpAny_pure ?_
      rw [← e, runFor_done h1] at q
      exact q
    · rw [show reTurnSteps = 4 from rfl, if_neg h1]
      refine wpAny_bind (wpAny_rule ?_)
      refine reDrive_of k (m.runFor 4) T ?_ ?_
      · rw [e]; exact h
      · rw [e]; exact q
theorem rules_of {f : Nat → Sem (ForInStep PUnit)} (hf : ∀ i, ∃ id, f i = (do rule id; pure (.yield ⟨⟩)) ∨ f i = pure (.yield ⟨⟩)) {Q : PUnit → Shared → Prop} : ∀ (l : List Nat), Q ⟨⟩ s → wpAny (model prog w) A (forIn l (⟨⟩ : PUnit) (fun i _ => f i)) Q E s
  | [], q => wpAny_pure q
  | i :: r, q => by
    rw [List.forIn_cons]
    obtain ⟨id, h | h⟩ := hf i
    · rw [h]
      exact wpAny_bind (wpAny_bind (wpAny_rule (wpAny_pure (rules_of hf r q))))
    · rw [h]
      exact wpAny_bind (wpAny_pure (rules_of hf r q))
theorem reRun_of {Q : Option Sre.M → Shared → Prop} (k : Nat) (hk : k < 1000) (m : Sre.M) (b : Bool) (h : (m.runFor (4 * k)).outcome = some (if b then .matched else .failed))
    (q : Q (if b then some (m.runFor (4 * k)) else none) s) : wpAny (model prog w) A (reRunToEnd m) Q E s := by
  unfold reRunToEnd
  refine wpAny_bind ?_
  rw [show (2 ^ 64 : Nat) = (2 ^ 64 - 1 - k) + 1 + k by omega]
  refine reDrive_of k m _ (by rw [h]; rfl) ?_
  refine wpAny_bind (rules_of (fun i => ?_) _ ?_)
  · refine ⟨Sre.names.getD i "", ?_⟩
    by_cases hs : (m.runFor (4 * k)).seen.has i = true
    · left; rw [if_pos hs]
    · right; rw [if_neg hs]
  · rw [h]
    cases b <;> exact wpAny_pure q
end
end
section
theorem off_S4 : True := by
  w_top off
  trivial
local macro_rules | `(tactic| walk_at "M none") => `(tactic| fail "none")
local macro_rules | `(tactic| walk_at "M none") => `(tactic| fail "none")
local macro_rules | `(tactic| walk_at "M none") => `(tactic| fail "none")
local macro_rules | `(tactic| walk_at "M none") => `(tactic| fail "none")
local macro_rules | `(tactic| walk_at "M none") => `(tactic| fail "none")
local macro_rules | `(tactic| walk_at "M none") => `(tactic| fail "none")
local macro_rules | `(tactic| walk_at "M none") => `(tactic| fail "none")
local macro_rules | `(tactic| walk_at "M none") => `(tactic| fail "none")
local macro_rules | `(tactic| walk_at "M none") => `(tactic| fail "none")
local macro_rules | `(tactic| walk_at "M none") => `(tactic| fail "none")
local macro_rules | `(tactic| walk_at "M none") => `(tactic| fail "none")
local macro_rules | `(tactic| walk_at "M none") => `(tactic| fail "none")
local macro_rules | `(tactic| walk_at "M none") => `(tactic| fail "none")
local macro_rules | `(tactic| walk_at "M none") => `(tactic| fail "none")
local macro_rules | `(tactic| walk_at "M none") => `(tactic| fail "none")
local macro_rules | `(tactic| walk_at "M none") => `(tactic| fail "none")
local macro_rules | `(tactic| walk_at "M none") => `(tactic| fail "none")
local macro_rules | `(tactic| walk_at "M none") => `(tactic| fail "none")
local macro_rules | `(tactic| walk_at "M none") => `(tactic| fail "none")
local macro_rules | `(tactic| walk_at "M none") => `(tactic| fail "none")
local macro_rules | `(tactic| walk_at "M none") => `(tactic| fail "none")
local macro_rules | `(tactic| walk_at "M none") => `(tactic| fail "none")
local macro_rules | `(tactic| walk_at "M none") => `(tactic| fail "none")
local macro_rules | `(tactic| walk_at "M none") => `(tactic| fail "none")
local macro_rules | `(tactic| walk_at "M none") => `(tactic| fail "none")
local macro_rules | `(tactic| walk_at "M none") => `(tactic| fail "none")
local macro_rules | `(tactic| walk_at "M none") => `(tactic| fail "none")
local macro_rules | `(tactic| walk_at "M none") => `(tactic| fail "none")
local macro_rules | `(tactic| walk_at "M none") => `(tactic| fail "none")
local macro_rules | `(tactic| walk_at "M none") => `(tactic| fail "none")
local macro_rules | `(tactic| walk_at "M none") => `(tactic| fail "none")
local macro_rules | `(tactic| walk_at "M none") => `(tactic| fail "none")
local macro_rules | `(tactic| walk_at "M none") => `(tactic| fail "none")
local macro_rules | `(tactic| walk_at "M none") => `(tactic| fail "none")
local macro_rules | `(tactic| walk_at "M none") => `(tactic| fail "none")
local macro_rules | `(tactic| walk_at "M none") => `(tactic| fail "none")
local macro_rules | `(tactic| walk_at "M none") => `(tactic| fail "none")
local macro_rules | `(tactic| walk_at "M none") => `(tactic| fail "none")
local macro_rules | `(tactic| walk_at "M none") => `(tactic| fail "none")
local macro_rules | `(tactic| walk_at "M none") => `(tactic| fail "none")
local macro_rules | `(tactic| walk_at "M none") => `(tactic| fail "none")
local macro_rules | `(tactic| walk_at "M none") => `(tactic| fail "none")
local macro_rules | `(tactic| walk_at "M none") => `(tactic| fail "none")
local macro_rules | `(tactic| walk_at "M none") => `(tactic| fail "none")
local macro_rules | `(tactic| walk_at "M none") => `(tactic| fail "none")
local macro_rules | `(tactic| walk_at "M none") => `(tactic| fail "none")
local macro_rules | `(tactic| walk_at "M none") => `(tactic| fail "none")
local macro_rules | `(tactic| walk_at "M none") => `(tactic| fail "none")
local macro_rules | `(tactic| walk_at "M none") => `(tactic| fail "none")
local macro_rules | `(tactic| walk_at "M none") => `(tactic| fail "none")
local macro_rules | `(tactic| walk_at "M none") => `(tactic| fail "none")
local macro_rules | `(tactic| walk_at "M none") => `(tactic| fail "none")
local macro_rules | `(tactic| walk_at "M none") => `(tactic| fail "none")
local macro_rules | `(tactic| walk_at "M none") => `(tactic| fail "none")
local macro_rules | `(tactic| walk_at "M none") => `(tactic| fail "none")
local macro_rules | `(tactic| walk_at "M none") => `(tactic| fail "none")
local macro_rules | `(tactic| walk_at "M none") => `(tactic| fail "none")
local macro_rules | `(tactic| walk_at "M none") => `(tactic| fail "none")
local macro_rules | `(tactic| walk_at "M none") => `(tactic| fail "none")
local macro_rules | `(tactic| walk_at "M none") => `(tactic| fail "none")
local macro_rules | `(tactic| k_all) => `(tactic| assumption)
local macro_rules | `(tactic| walk_at "M enter") => `(tactic| (refine wpAny_call ?_; k_dflt (refine' code_def ?k1 ?k2 ?k3 ?k4 ?k5 ?kA ?kF ?kK ?k6 ?k7 ?k8 ?k9 ?kB ?_ ?c2 ?c3 ?c4 ?c5; (case kA => first | assumption | exact rfl); (case kF => assumption); (case kK => assumption); (case k1 => k_asm); (case k2 => k_asm); (case k3 => k_asm); (case k4 => k_asm); (case k5 => k_asm); (case k6 => k_is); (case k7 => k_is); (case k8 => first | omega | (dsimp only; omega)); (case k9 => exact BindsTo.of_eq rfl); (case c5 => decide); (case kB => exact locs rfl); (case c2 => exact rfl); (case c3 => exact rfl); (case c4 => exact rfl); k_whole)))
local macro_rules | `(tactic| walk_at "M enterT") => `(tactic| (refine wpAny_call ?_; k_dflt (refine' code_defT ?k1 ?k2 ?k3 ?k4 ?k5 ?kA ?kF ?kK ?k6 ?k7 ?k8 ?k9 ?kB ?_ ?c2 ?c3 ?c4 ?c5; (case kA => first | assumption | exact rfl); (case kF => assumption); (case kK => assumption); (case k1 => k_asm); (case k2 => k_asm); (case k3 => k_asm); (case k4 => k_asm); (case k5 => k_asm); (case k6 => k_is); (case k7 => k_is); (case k8 => first | omega | (dsimp only; omega)); (case k9 => exact BindsTo.of_eq rfl); (case c5 => decide); (case kB => exact locs rfl); (case c2 => exact rfl); (case c3 => exact rfl); (case c4 => exact rfl); k_whole)))
local macro_rules | `(tactic| walk_at "M open") => `(tactic| (rename Around => A9; rename (Around.frames _ = _) => hA9; rename (Around.handled _ = _) => hh9; revert hA9 hh9; rename (Around.depth _ + _ < _) => hd9; revert hd9; rename (Around.units _ + _ < _) => hu9; revert hu9; cases A9; dsimp only; intro hu9 hd9 hA9 hh9; subst hA9; subst hh9))
local macro_rules | `(tactic| walk_at "M noloop") => `(tactic| ((fail_if_success (with_reducible show wpAny _ _ (exec (Stmt.While _ _ _ _) _) _ _ _)); (fail_if_success (with_reducible show wpAny _ _ (exec (Stmt.For _ _ _ _ _) _) _ _ _)); (fail_if_success (with_reducible show LCg.CompSrc _ _ _ _ _ _ _ _ _ _ _ _ _ _)); (fail_if_success (with_reducible show wpAny _ _ (eval (PySem.Expr.ListComp _ _ _ _) _) _ _ _)); (fail_if_success (with_reducible show wpAny _ _ _ (fun it s₂ => PairAt3 _ _ _ _ _ _ _ _ _ _ it s₂) _ _))))
local macro_rules | `(tactic| walk_at "M go") => `(tactic| repeat' (walk_at "M noloop"; first | (k_unfold; (try dsimp only)) | (k_end; kc_close) | walk1 | (dsimp only; walk1) | (leave1; walk_say "STEP leave1"; (try dsimp only)) | fail "no step"))
local macro_rules | `(tactic| walk_at "And") => `(tactic| ((with_reducible show PySem.Str.length (_ ++ _) ≤ sizeLine ∧ wpAny _ _ (joinParts _ _) _ _ _); refine fs_and (by (simp only [len_mk, show Str.length Str.empty = 0 from rfl] at *); omega) ?_; intro zF hzF))
local macro_rules | `(tactic| walk_at "joinParts") => `(tactic| (first | (with_reducible show wpAny _ _ (joinParts _ []) _ _ _) | (with_reducible refine joinParts_nilE ?_)); refine fs_nil (by (simp only [len_mk, show Str.length Str.empty = 0 from rfl] at *); omega) ?_)
local macro_rules | `(tactic| walk_at "M enterC") => `(tactic| (refine wpAny_call ?_; k_dflt (refine' code_defC ?k1 ?k2 ?k3 ?k4 ?k5 ?kA ?kF ?kK ?k6 ?k7 ?k8 ?k9 ?kB ?kD ?_ ?c2 ?c3 ?c4; (case kA => first | assumption | exact rfl); (case kF => assumption); (case kK => assumption); (case k1 => k_asm); (case k2 => k_asm); (case k3 => k_asm); (case k4 => k_asm); (case k5 => k_asm); (case k6 => k_is); (case k7 => k_is); (case k8 => first | omega | (dsimp only; omega)); (case k9 => exact BindsTo.of_eq rfl); (case kB => exact rfl); (case kD => decide +kernel); (case c2 => exact rfl); (case c3 => exact rfl); (case c4 => exact rfl); k_whole)))
local macro_rules | `(tactic| walk_at "M next") => `(tactic| (k_here; (with_reducible show wpAny _ _ (call (Value.ref 105) [Value.ref _, Value.int _ _]) _ _ _); k_dflt (refine' next_u ?B ?F ?X ?N ?T ?hA ?hf ?hke ?hh ?hd ?hu ?hst ?hos ?U ?hsc ?m0 ?m1 ?_; (case hA => exact rfl); (case hf => exact rfl); (case hke => exact rfl); (case hh => exact rfl); (case B => k_asm); (case F => k_asm); (case X => k_asm); (case N => k_asm); (case T => k_asm); (case hst => assumption); (case hos => assumption); (case U => k_updF); (case hsc => k_mem); (case hd => ktr_room); (case hu => ktr_units); (case m0 => omega); (case m1 => omega)); intro r9 t9 o9 h9 tk9 hr0 hr1 hst9 F9 N9; (try dsimp only at N9)))
section
open PySem.Builtin.Re
variable {prog : Program} {w : World} {A : Around} {E : Value → Shared → Prop} {s : Shared}
theorem reNamed_match (v : Value) : reNamed "re.Pattern.match" "match" ["string", "pos", "endpos"] 1 [v] [] = pure [some v, none, none] := by
  rfl
theorem pat_match_gen {a cd g : Nat} {op oc : Obj} {fs items : Array Value} {n : Nat} {t6 t2 t : Tok} {C : Array Nat} {x : List Nat} {Q : Value → Shared → Prop}
    (hp : s.heap.get? a = some op) (hpc : op.cls = .type "re.Pattern") (hpd : op.data = .fields fs) (h6 : fs.getD 6 .none = .int 0 t6) (h2 : fs.getD 2 .none = .int (g : Int) t2) (h5 : fs.getD 5 .none = .ref cd)
    (hcd : s.heap.get? cd = some oc) (hod : oc.data = .seq items n) (hitems : (items.map reRawOf).map (·.toNat) = C) (hx : x.length ≤ 100)
    (h : wpAny (model prog w) A.in1 (reAnswer ⟨.ref a, .str ⟨x.toArray⟩ t, C, x.toArray, 0, g, 0, x.length⟩ (Sre.forMatch C x.toArray g 0 x.length false false)) (fun fin s' => ∃ v, fin = .done (.ret v) ∧ Q v s') E s) :
    wpAny (model prog w) A (call (.builtin "re.Pattern.match") [.ref a, .str ⟨x.toArray⟩ t]) Q E s := by
  refine wpAny_call_entry slot_pat_match ⟨op, hp, hpc⟩ entry_pat_match ?_ (args_pat_match _ _)
  unfold Builtin.«re.Pattern.match»
  refine wpAny_bind ?_
  unfold reTarget
  dsimp only
  rw [reNamed_match]
  refine wpAny_bind (wpAny_pure ?_)
  dsimp only
  refine wpAny_bind (wpAny_pure ?_)
  refine wpAny_bind (wpAny_pure ?_)
  refine wpAny_bind (wpAny_fieldsOf hp hpd ?_)
  refine wpAny_bind (m := reTextOf _) (wpAny_bind (m := asStr? _) (wpAny_pure (wpAny_pure ?_)))
  dsimp only
  rw [h6, h2, h5]
  refine wpAny_bind ?_
  refine wpAny_of_eq (a := ()) rfl ?_
  refine wpAny_bind (m := reRawItems _) (wpAny_bind (wpAny_seqItems hcd hod (wpAny_pure ?_)))
  refine wpAny_pure ?_
  dsimp only [Option.getD_some]
  rw [hitems, show reRawNat (Value.int (g : Int) t2) = g by simp [reRawNat], show min (Int.toNat 0) x.toArray.size = 0 by simp, show min ((2 ^ 63 - 1 : Int)).toNat x.toArray.size = x.length by simp; omega]
  exact h
def spansO (vs : List Int) : Obj := { cls := .type "tuple", data := .seq (vs.map rawInt).toArray }
def matchO (P S : Addr) (v : Value) (n : Nat) : Obj := { cls := .type "re.Match", data := .fields #[v, .ref P, rawInt 0, rawInt (n : Int), rawInt 2, .ref S] }
theorem answer_fail {T : ReTarget} {m : Sre.M} {Q : Fin → Shared → Prop} (k : Nat) (hk : k < 1000) (h : (m.runFor (4 * k)).outcome = some .failed) (q : Q (.done (.ret .none)) s) : wpAny (model prog w) A (reAnswer T m) Q E s := by
  unfold reAnswer
  exact wpAny_bind (reRun_of k hk m false h (wpAny_pure q))
theorem answer_hit2 {a : Addr} {v : Value} {C tx : Array Nat} {n : Nat} {m : Sre.M} {b0 e0 b1 e1 : Nat} {Q : Fin → Shared → Prop} (k : Nat) (hk : k < 1000) (h : Hit (m.runFor (4 * k)) n #[some b0, some e0, some b1, some e1]) (h0 : b0 ≤ e0) (h1 : b1 ≤ e1)
    (q : Q (.done (.ret (.ref (s.heap.push (spansO [0, (n : Int), b0, e0, b1, e1])).objs.size))) { s with heap := (s.heap.push (spansO [0, (n : Int), b0, e0, b1, e1])).push (matchO a s.heap.objs.size v n) }) : wpAny (model prog w) A (reAnswer ⟨.ref a, v, C, tx, 0, 2, 0, n⟩ m) Q E s := by
  unfold reAnswer
  refine wpAny_bind (reRun_of k hk m true h.out ?_)
  dsimp only [if_true]
  refine wpAny_bind ?_
  unfold reNewMatch
  rw [h.lastmark, h.marks, h.start, h.handed, h.lastindex]
  dsimp only
  split
  · rename_i hc
    exfalso
    revert hc
    have c0 : decide (e0 < b0) = false := decide_eq_false (by omega)
    have c1 : decide (e1 < b1) = false := decide_eq_false (by omega)
    show ¬ ((_ && decide (e0 < b0) || (_ && decide (e1 < b1) || false)) = true)
    rw [c0, c1]
    simp
  refine wpAny_bind (m := newTuple [rawInt 0, rawInt (n : Int), rawInt (b0 : Int), rawInt (e0 : Int), rawInt (b1 : Int), rawInt (e1 : Int)]) (wpAny_newObj_type ?_ (by show 6 ≤ sizeLine; rw [sizeLine_eq]; omega))
  exact wpAny_newObj_type (wpAny_pure q) (by size_fits)
theorem answer_hit5 {a : Addr} {v : Value} {C tx : Array Nat} {n : Nat} {m : Sre.M} {b0 e0 b1 e1 z : Nat} {Q : Fin → Shared → Prop} (k : Nat) (hk : k < 1000) (h : Hit (m.runFor (4 * k)) n #[some b0, some e0, some b1, some e1, some z, none, none, none, none, none]) (h0 : b0 ≤ e0) (h1 : b1 ≤ e1)
    (q : Q (.done (.ret (.ref (s.heap.push (spansO [0, (n : Int), b0, e0, b1, e1, -1, -1, -1, -1, -1, -1])).objs.size))) { s with heap := (s.heap.push (spansO [0, (n : Int), b0, e0, b1, e1, -1, -1, -1, -1, -1, -1])).push (matchO a s.heap.objs.size v n) }) : wpAny (model prog w) A (reAnswer ⟨.ref a, v, C, tx, 0, 5, 0, n⟩ m) Q E s := by
  unfold reAnswer
  refine wpAny_bind (reRun_of k hk m true h.out ?_)
  dsimp only [if_true]
  refine wpAny_bind ?_
  unfold reNewMatch
  rw [h.lastmark, h.marks, h.start, h.handed, h.lastindex]
  dsimp only
  split
  · rename_i hc
    exfalso
    revert hc
    have c0 : decide (e0 < b0) = false := decide_eq_false (by omega)
    have c1 : decide (e1 < b1) = false := decide_eq_false (by omega)
    show ¬ ((_ && decide (e0 < b0) || (_ && decide (e1 < b1) || (false || (false || (false || false))))) = true)
    rw [c0, c1]
    simp
  refine wpAny_bind (m := newTuple [rawInt 0, rawInt (n : Int), rawInt (b0 : Int), rawInt (e0 : Int), rawInt (b1 : Int), rawInt (e1 : Int), rawInt (-1), rawInt (-1), rawInt (-1), rawInt (-1), rawInt (-1), rawInt (-1)]) (wpAny_newObj_type ?_ (by show 12 ≤ sizeLine; rw [sizeLine_eq]; omega))
  exact wpAny_newObj_type (wpAny_pure q) (by size_fits)
theorem getMethod_pat {a : Addr} {op : Obj} {pl : Sem Bool} {Q : Value × List Value → Shared → Prop} (hp : s.heap.get? a = some op) (hpc : op.cls = .type "re.Pattern") (hd : op.dict = none) (h : Q (.builtin "re.Pattern.match", [.ref a]) s) : wpAny (model prog w) A (getMethod (.ref a) "match" pl) Q E s :=
  getMethod_builtin ⟨op, hp, hpc⟩ plainAttrs_rePat slot_pat_match type_pat_match (fun b e => by cases e; exact ⟨op, hp, hd⟩) h
theorem getMethod_groups {a : Addr} {op : Obj} {pl : Sem Bool} {Q : Value × List Value → Shared → Prop} (hp : s.heap.get? a = some op) (hpc : op.cls = .type "re.Match") (hd : op.dict = none) (h : Q (.builtin "re.Match.groups", [.ref a]) s) : wpAny (model prog w) A (getMethod (.ref a) "groups" pl) Q E s :=
  getMethod_builtin ⟨op, hp, hpc⟩ plainAttrs_reMatch slot_mt_groups type_mt_groups (fun b e => by cases e; exact ⟨op, hp, hd⟩) h
theorem getMethod_groupdict {a : Addr} {op : Obj} {pl : Sem Bool} {Q : Value × List Value → Shared → Prop} (hp : s.heap.get? a = some op) (hpc : op.cls = .type "re.Match") (hd : op.dict = none) (h : Q (.builtin "re.Match.groupdict", [.ref a]) s) : wpAny (model prog w) A (getMethod (.ref a) "groupdict" pl) Q E s :=
  getMethod_builtin ⟨op, hp, hpc⟩ plainAttrs_reMatch slot_mt_groupdict type_mt_groupdict (fun b e => by cases e; exact ⟨op, hp, hd⟩) h
theorem truthy_mt {a : Addr} {op : Obj} {Q : Bool → Shared → Prop} (hp : s.heap.get? a = some op) (hpc : op.cls = .type "re.Match") (h : Q true s) : wpAny (model prog w) A (truthy (.ref a)) Q E s := by
  have hT : s.TypeIs (.ref a) "re.Match" := ⟨op, hp, hpc⟩
  unfold truthy
  refine wpAny_bind (wpAny_callSpecial?_none (name := Str.ofString "__bool__") hT nobool_mt ?_)
  refine wpAny_bind (wpAny_specialOf (name := Str.ofString "__len__") hT nolen_mt ?_)
  exact wpAny_pure h
theorem reNamed_groups : reNamed "re.Match.groups" "groups" ["default"] 0 [] [] = pure [none] := by rfl
theorem reNamed_groupdict (v : Value) : reNamed "re.Match.groupdict" "groupdict" ["default"] 0 [v] [] = pure [some v] := by rfl
theorem groupText_in {x : List Nat} {t : Tok} {fs : Array Value} {sp : Array Int} {g b e : Nat} {d : Value} {Q : Value → Shared → Prop} (h0 : fs.getD 0 .none = .str ⟨x.toArray⟩ t) (hb : sp.getD (2 * g) (-1) = (b : Int)) (he : sp.getD (2 * g + 1) (-1) = (e : Int)) (hx : x.length ≤ 100)
    (h : Q (.str ⟨x.toArray.extract b e⟩ s.toks) { s with toks := s.toks + 1 }) : wpAny (model prog w) A (reGroupText ⟨fs, sp⟩ g d) Q E s := by
  unfold reGroupText
  dsimp only
  rw [hb, he, h0]
  have c : ¬ ((decide ((b : Int) < 0) || decide ((e : Int) < 0)) = true) := by simp
  rw [if_neg c]
  refine wpAny_bind (m := reTextOf _) (wpAny_bind (m := asStr? _) (wpAny_pure (wpAny_pure ?_)))
  show wpAny _ _ (mkStr ⟨x.toArray.extract (b : Int).toNat (e : Int).toNat⟩) _ _ _
  rw [Int.toNat_natCast, Int.toNat_natCast]
  refine wpAny_mkStr h ?_
  rw [sizeLine_eq]
  show (x.toArray.extract b e).size ≤ _
  rw [Array.size_extract]
  simp
  omega
theorem groupText_out {fs : Array Value} {sp : Array Int} {g : Nat} {d : Value} {Q : Value → Shared → Prop} (hb : sp.getD (2 * g) (-1) = -1) (h : Q d s) : wpAny (model prog w) A (reGroupText ⟨fs, sp⟩ g d) Q E s := by
  unfold reGroupText
  dsimp only
  rw [hb, if_pos (by simp)]
  exact wpAny_pure h
theorem call_groups {M S P : Addr} {x : List Nat} {t : Tok} {n b0 e0 b1 e1 : Nat} {Q : Value → Shared → Prop} (hM : s.heap.get? M = some (matchO P S (.str ⟨x.toArray⟩ t) n)) (hS : s.heap.get? S = some (spansO [0, (n : Int), b0, e0, b1, e1])) (hx : x.length ≤ 100)
    (h : Q (.ref s.heap.objs.size) { s with heap := s.heap.push { cls := .type "tuple", data := .seq [Value.str ⟨x.toArray.extract b0 e0⟩ s.toks, .str ⟨x.toArray.extract b1 e1⟩ (s.toks + 1)].toArray }, toks := s.toks + 1 + 1 }) : wpAny (model prog w) A (call (.builtin "re.Match.groups") [.ref M]) Q E s := by
  refine wpAny_call_entry slot_mt_groups ⟨_, hM, rfl⟩ entry_mt_groups ?_ (args_mt_groups _)
  unfold Builtin.«re.Match.groups»
  refine wpAny_bind ?_
  unfold reWithDefault
  dsimp only
  rw [reNamed_groups]
  refine wpAny_bind (wpAny_pure ?_)
  dsimp only
  refine wpAny_bind ?_
  unfold reFound
  refine wpAny_bind (wpAny_fieldsOf hM rfl ?_)
  refine wpAny_bind (m := reRawItems _) (wpAny_bind (wpAny_seqItems hS rfl (wpAny_pure (wpAny_pure (wpAny_pure ?_)))))
  dsimp only
  rw [show Array.map reRawOf ((some (List.map rawInt [0, (n : Int), b0, e0, b1, e1]).toArray).getD #[]) = #[0, (n : Int), b0, e0, b1, e1] by simp [reRawOf, rawInt]]
  rw [show List.range ((#[0, (n : Int), b0, e0, b1, e1] : Array Int).size / 2 - 1) = [0, 1] by simp [List.range, List.range.loop]]
  refine wpAny_bind ?_
  show wpAny _ _ (do let r0 ← reGroupText _ (0 + 1) .none; let r1 ← reGroupText _ (1 + 1) .none; pure [r0, r1]) _ _ _
  refine wpAny_bind (groupText_in (b := b0) (e := e0) rfl rfl rfl hx ?_)
  refine wpAny_bind (groupText_in (b := b1) (e := e1) rfl rfl rfl hx ?_)
  refine wpAny_pure ?_
  refine wpAny_bind (m := newTuple _) (wpAny_newObj_type ?_ (by show 2 ≤ sizeLine; rw [sizeLine_eq]; omega))
  exact wpAny_pure ⟨_, rfl, h⟩
end
end
section
theorem off_P1 : True := by
  w_top off
  trivial
local macro_rules | `(tactic| walk_at "M none") => `(tactic| fail "none")
local macro_rules | `(tactic| walk_at "M none") => `(tactic| fail "none")
local macro_rules | `(tactic| walk_at "M none") => `(tactic| fail "none")
local macro_rules | `(tactic| walk_at "M none") => `(tactic| fail "none")
local macro_rules | `(tactic| walk_at "M none") => `(tactic| fail "none")
local macro_rules | `(tactic| walk_at "M none") => `(tactic| fail "none")
local macro_rules | `(tactic| walk_at "M none") => `(tactic| fail "none")
local macro_rules | `(tactic| walk_at "M none") => `(tactic| fail "none")
local macro_rules | `(tactic| walk_at "M none") => `(tactic| fail "none")
local macro_rules | `(tactic| walk_at "M none") => `(tactic| fail "none")
local macro_rules | `(tactic| walk_at "M none") => `(tactic| fail "none")
local macro_rules | `(tactic| walk_at "M none") => `(tactic| fail "none")
local macro_rules | `(tactic| walk_at "M none") => `(tactic| fail "none")
local macro_rules | `(tactic| walk_at "M none") => `(tactic| fail "none")
local macro_rules | `(tactic| walk_at "M none") => `(tactic| fail "none")
local macro_rules | `(tactic| walk_at "M none") => `(tactic| fail "none")
local macro_rules | `(tactic| walk_at "M none") => `(tactic| fail "none")
local macro_rules | `(tactic| walk_at "M none") => `(tactic| fail "none")
local macro_rules | `(tactic| walk_at "M none") => `(tactic| fail "none")
local macro_rules | `(tactic| walk_at "M none") => `(tactic| fail "none")
local macro_rules | `(tactic| walk_at "M none") => `(tactic| fail "none")
local macro_rules | `(tactic| walk_at "M none") => `(tactic| fail "none")
local macro_rules | `(tactic| walk_at "M none") => `(tactic| fail "none")
local macro_rules | `(tactic| walk_at "M none") => `(tactic| fail "none")
local macro_rules | `(tactic| walk_at "M none") => `(tactic| fail "none")
local macro_rules | `(tactic| walk_at "M none") => `(tactic| fail "none")
local macro_rules | `(tactic| walk_at "M none") => `(tactic| fail "none")
local macro_rules | `(tactic| walk_at "M none") => `(tactic| fail "none")
local macro_rules | `(tactic| walk_at "M none") => `(tactic| fail "none")
local macro_rules | `(tactic| walk_at "M none") => `(tactic| fail "none")
local macro_rules | `(tactic| walk_at "M none") => `(tactic| fail "none")
local macro_rules | `(tactic| walk_at "M none") => `(tactic| fail "none")
local macro_rules | `(tactic| walk_at "M none") => `(tactic| fail "none")
local macro_rules | `(tactic| walk_at "M none") => `(tactic| fail "none")
local macro_rules | `(tactic| walk_at "M none") => `(tactic| fail "none")
local macro_rules | `(tactic| walk_at "M none") => `(tactic| fail "none")
local macro_rules | `(tactic| walk_at "M none") => `(tactic| fail "none")
local macro_rules | `(tactic| walk_at "M none") => `(tactic| fail "none")
local macro_rules | `(tactic| walk_at "M none") => `(tactic| fail "none")
local macro_rules | `(tactic| walk_at "M none") => `(tactic| fail "none")
local macro_rules | `(tactic| walk_at "M none") => `(tactic| fail "none")
local macro_rules | `(tactic| walk_at "M none") => `(tactic| fail "none")
local macro_rules | `(tactic| walk_at "M none") => `(tactic| fail "none")
local macro_rules | `(tactic| walk_at "M none") => `(tactic| fail "none")
local macro_rules | `(tactic| walk_at "M none") => `(tactic| fail "none")
local macro_rules | `(tactic| walk_at "M none") => `(tactic| fail "none")
local macro_rules | `(tactic| walk_at "M none") => `(tactic| fail "none")
local macro_rules | `(tactic| walk_at "M none") => `(tactic| fail "none")
local macro_rules | `(tactic| walk_at "M none") => `(tactic| fail "none")
local macro_rules | `(tactic| walk_at "M none") => `(tactic| fail "none")
local macro_rules | `(tactic| walk_at "M none") => `(tactic| fail "none")
local macro_rules | `(tactic| walk_at "M none") => `(tactic| fail "none")
local macro_rules | `(tactic| walk_at "M none") => `(tactic| fail "none")
local macro_rules | `(tactic| walk_at "M none") => `(tactic| fail "none")
local macro_rules | `(tactic| walk_at "M none") => `(tactic| fail "none")
local macro_rules | `(tactic| walk_at "M none") => `(tactic| fail "none")
local macro_rules | `(tactic| walk_at "M none") => `(tactic| fail "none")
local macro_rules | `(tactic| walk_at "M none") => `(tactic| fail "none")
local macro_rules | `(tactic| walk_at "M none") => `(tactic| fail "none")
local macro_rules | `(tactic| walk_at "M none") => `(tactic| fail "none")
local macro_rules | `(tactic| walk_at "M none") => `(tactic| fail "none")
local macro_rules | `(tactic| walk_at "M none") => `(tactic| fail "none")
local macro_rules | `(tactic| walk_at "M none") => `(tactic| fail "none")
local macro_rules | `(tactic| walk_at "M none") => `(tactic| fail "none")
local macro_rules | `(tactic| walk_at "M none") => `(tactic| fail "none")
local macro_rules | `(tactic| walk_at "M none") => `(tactic| fail "none")
local macro_rules | `(tactic| walk_at "M none") => `(tactic| fail "none")
local macro_rules | `(tactic| walk_at "M none") => `(tactic| fail "none")
local macro_rules | `(tactic| walk_at "M none") => `(tactic| fail "none")
local macro_rules | `(tactic| walk_at "M none") => `(tactic| fail "none")
local macro_rules | `(tactic| walk_at "M none") => `(tactic| fail "none")
local macro_rules | `(tactic| walk_at "M none") => `(tactic| fail "none")
local macro_rules | `(tactic| walk_at "M none") => `(tactic| fail "none")
local macro_rules | `(tactic| walk_at "M none") => `(tactic| fail "none")
local macro_rules | `(tactic| walk_at "M none") => `(tactic| fail "none")
local macro_rules | `(tactic| walk_at "M none") => `(tactic| fail "none")
local macro_rules | `(tactic| walk_at "M none") => `(tactic| fail "none")
local macro_rules | `(tactic| walk_at "M none") => `(tactic| fail "none")
local macro_rules | `(tactic| walk_at "M none") => `(tactic| fail "none")
local macro_rules | `(tactic| walk_at "M none") => `(tactic| fail "none")
local macro_rules | `(tactic| walk_at "M none") => `(tactic| fail "none")
local macro_rules | `(tactic| walk_at "M none") => `(tactic| fail "none")
local macro_rules | `(tactic| walk_at "M none") => `(tactic| fail "none")
local macro_rules | `(tactic| walk_at "M none") => `(tactic| fail "none")
local macro_rules | `(tactic| walk_at "M none") => `(tactic| fail "none")
local macro_rules | `(tactic| walk_at "M none") => `(tactic| fail "none")
local macro_rules | `(tactic| walk_at "M none") => `(tactic| fail "none")
local macro_rules | `(tactic| walk_at "M none") => `(tactic| fail "none")
local macro_rules | `(tactic| walk_at "M none") => `(tactic| fail "none")
local macro_rules | `(tactic| walk_at "M none") => `(tactic| fail "none")
local macro_rules | `(tactic| k_all) => `(tactic| assumption)
local macro_rules | `(tactic| walk_at "M enter") => `(tactic| (refine wpAny_call ?_; k_dflt (refine' code_def ?k1 ?k2 ?k3 ?k4 ?k5 ?kA ?kF ?kK ?k6 ?k7 ?k8 ?k9 ?kB ?_ ?c2 ?c3 ?c4 ?c5; (case kA => first | assumption | exact rfl); (case kF => assumption); (case kK => assumption); (case k1 => k_asm); (case k2 => k_asm); (case k3 => k_asm); (case k4 => k_asm); (case k5 => k_asm); (case k6 => k_is); (case k7 => k_is); (case k8 => first | omega | (dsimp only; omega)); (case k9 => exact BindsTo.of_eq rfl); (case c5 => decide); (case kB => exact locs rfl); (case c2 => exact rfl); (case c3 => exact rfl); (case c4 => exact rfl); k_whole)))
local macro_rules | `(tactic| walk_at "M enterT") => `(tactic| (refine wpAny_call ?_; k_dflt (refine' code_defT ?k1 ?k2 ?k3 ?k4 ?k5 ?kA ?kF ?kK ?k6 ?k7 ?k8 ?k9 ?kB ?_ ?c2 ?c3 ?c4 ?c5; (case kA => first | assumption | exact rfl); (case kF => assumption); (case kK => assumption); (case k1 => k_asm); (case k2 => k_asm); (case k3 => k_asm); (case k4 => k_asm); (case k5 => k_asm); (case k6 => k_is); (case k7 => k_is); (case k8 => first | omega | (dsimp only; omega)); (case k9 => exact BindsTo.of_eq rfl); (case c5 => decide); (case kB => exact locs rfl); (case c2 => exact rfl); (case c3 => exact rfl); (case c4 => exact rfl); k_whole)))
local macro_rules | `(tactic| walk_at "M open") => `(tactic| (rename Around => A9; rename (Around.frames _ = _) => hA9; rename (Around.handled _ = _) => hh9; revert hA9 hh9; rename (Around.depth _ + _ < _) => hd9; revert hd9; rename (Around.units _ + _ < _) => hu9; revert hu9; cases A9; dsimp only; intro hu9 hd9 hA9 hh9; subst hA9; subst hh9))
local macro_rules | `(tactic| walk_at "M noloop") => `(tactic| ((fail_if_success (with_reducible show wpAny _ _ (exec (Stmt.While _ _ _ _) _) _ _ _)); (fail_if_success (with_reducible show wpAny _ _ (exec (Stmt.For _ _ _ _ _) _) _ _ _)); (fail_if_success (with_reducible show LCg.CompSrc _ _ _ _ _ _ _ _ _ _ _ _ _ _)); (fail_if_success (with_reducible show wpAny _ _ (eval (PySem.Expr.ListComp _ _ _ _) _) _ _ _)); (fail_if_success (with_reducible show wpAny _ _ _ (fun it s₂ => PairAt3 _ _ _ _ _ _ _ _ _ _ it s₂) _ _))))
local macro_rules | `(tactic| walk_at "M go") => `(tactic| repeat' (walk_at "M noloop"; first | (k_unfold; (try dsimp only)) | (k_end; kc_close) | walk1 | (dsimp only; walk1) | (leave1; walk_say "STEP leave1"; (try dsimp only)) | fail "no step"))
local macro_rules | `(tactic| walk_at "And") => `(tactic| ((with_reducible show PySem.Str.length (_ ++ _) ≤ sizeLine ∧ wpAny _ _ (joinParts _ _) _ _ _); refine fs_and (by (simp only [len_mk, show Str.length Str.empty = 0 from rfl] at *); omega) ?_; intro zF hzF))
local macro_rules | `(tactic| walk_at "joinParts") => `(tactic| (first | (with_reducible show wpAny _ _ (joinParts _ []) _ _ _) | (with_reducible refine joinParts_nilE ?_)); refine fs_nil (by (simp only [len_mk, show Str.length Str.empty = 0 from rfl] at *); omega) ?_)
local macro_rules | `(tactic| walk_at "M enterC") => `(tactic| (refine wpAny_call ?_; k_dflt (refine' code_defC ?k1 ?k2 ?k3 ?k4 ?k5 ?kA ?kF ?kK ?k6 ?k7 ?k8 ?k9 ?kB ?kD ?_ ?c2 ?c3 ?c4; (case kA => first | assumption | exact rfl); (case kF => assumption); (case kK => assumption); (case k1 => k_asm); (case k2 => k_asm); (case k3 => k_asm); (case k4 => k_asm); (case k5 => k_asm); (case k6 => k_is); (case k7 => k_is); (case k8 => first | omega | (dsimp only; omega)); (case k9 => exact BindsTo.of_eq rfl); (case kB => exact rfl); (case kD => decide +kernel); (case c2 => exact rfl); (case c3 => exact rfl); (case c4 => exact rfl); k_whole)))
local macro_rules | `(tactic| walk_at "M next") => `(tactic| (k_here; (with_reducible show wpAny _ _ (call (Value.ref 105) [Value.ref _, Value.int _ _]) _ _ _); k_dflt (refine' next_u ?B ?F ?X ?N ?T ?hA ?hf ?hke ?hh ?hd ?hu ?hst ?hos ?U ?hsc ?m0 ?m1 ?_; (case hA => exact rfl); (case hf => exact rfl); (case hke => exact rfl); (case hh => exact rfl); (case B => k_asm); (case F => k_asm); (case X => k_asm); (case N => k_asm); (case T => k_asm); (case hst => assumption); (case hos => assumption); (case U => k_updF); (case hsc => k_mem); (case hd => ktr_room); (case hu => ktr_units); (case m0 => omega); (case m1 => omega)); intro r9 t9 o9 h9 tk9 hr0 hr1 hst9 F9 N9; (try dsimp only at N9)))
section
open PySem.Builtin.Re
variable {prog : Program} {w : World} {A : Around} {E : Value → Shared → Prop} {s : Shared} {h₀ : Heap} {L : Addr} {m : Str → Option Value} {news : List (Addr × Obj)}
theorem coord_obj (P : Params) : ∃ op fs t6 t2, (Mine.hd.heap_39 P).lookup 49 = some op ∧ op.cls = .type "re.Pattern" ∧ op.dict = none ∧ op.data = .fields fs ∧ fs.getD 6 .none = .int 0 t6 ∧ fs.getD 2 .none = .int ((2 : Nat) : Int) t2 ∧ fs.getD 5 .none = .ref 48 :=
  ⟨_, _, _, _, rfl, rfl, rfl, rfl, rfl, rfl, rfl⟩
theorem coord_code (P : Params) : ∃ oc items n, (Mine.hd.heap_39 P).lookup 48 = some oc ∧ oc.data = .seq items n ∧ (items.map reRawOf).map (·.toNat) = coordC := by
  refine ⟨_, _, _, rfl, rfl, ?_⟩
  decide +kernel
theorem pat49 {pl : Sem Bool} {Q : Value × List Value → Shared → Prop} (F : Fr h₀ L s.heap m) (X₀ : (Mine.hd.heap_39 w.params).In h₀) (h : Q (.builtin "re.Pattern.match", [.ref 49]) s) : wpAny (model prog w) A (getMethod (.ref 49) "match" pl) Q E s := by
  obtain ⟨op, fs, t6, t2, hl, hc, hd, _⟩ := coord_obj w.params
  exact getMethod_pat ((X₀.keeps F.keep) _ _ hl) hc hd h
theorem match49_hit {a b : Bool} {x d : List Nat} {t : Tok} {Q : Value → Shared → Prop} (F : Fr h₀ L s.heap m) (X₀ : (Mine.hd.heap_39 w.params).In h₀) (N : News h₀ L s.heap news) (hx : Letters x) (hd : Digits d)
    (h : ∀ S M h', Fr h₀ L h' m → News h₀ L h' ((M, matchO 49 S (.str ⟨(placeL a b x d).toArray⟩ t) (placeL a b x d).length) :: (S, spansO [0, ((placeL a b x d).length : Int), ((mk1 a).length : Nat), ((mk1 a).length + x.length : Nat), ((mk1 a).length + x.length + (mk1 b).length : Nat), ((mk1 a).length + x.length + (mk1 b).length + d.length : Nat)]) :: news) →
      (∀ p ∈ news, p.1 < S) → S < M → Q (.ref M) { s with heap := h' }) : wpAny (model prog w) A (call (.builtin "re.Pattern.match") [.ref 49, .str ⟨(placeL a b x d).toArray⟩ t]) Q E s := by
  obtain ⟨op, fs, t6, t2, hl, hc, _, hdt, h6, h2, h5⟩ := coord_obj w.params
  obtain ⟨oc, items, n, hcl, hcd, hit⟩ := coord_code w.params
  have len : (placeL a b x d).length ≤ 100 := by
    have h1 := hx.2.1
    have h2 := hd.1
    simp only [List.mem_cons, List.not_mem_nil, or_false] at h2
    have e : (placeL a b x d).length = (mk1 a).length + x.length + (mk1 b).length + d.length := by simp [placeL]; omega
    have m1 : ∀ z, (mk1 z).length ≤ 1 := by intro z; cases z <;> simp [mk1]
    have := m1 a
    have := m1 b
    omega
  have hit9 := coord_hit (a := a) (b := b) hx hd
  refine pat_match_gen ((X₀.keeps F.keep) _ _ hl) hc hdt h6 h2 h5 ((X₀.keeps F.keep) _ _ hcl) hcd hit len ?_
  refine answer_hit2 4 (by omega) hit9 (by omega) (by omega) ⟨_, rfl, ?_⟩
  have N1 := News.push F N (spansO [0, ((placeL a b x d).length : Int), ((mk1 a).length : Nat), ((mk1 a).length + x.length : Nat), ((mk1 a).length + x.length + (mk1 b).length : Nat), ((mk1 a).length + x.length + (mk1 b).length + d.length : Nat)])
  have F1 := F.push (spansO [0, ((placeL a b x d).length : Int), ((mk1 a).length : Nat), ((mk1 a).length + x.length : Nat), ((mk1 a).length + x.length + (mk1 b).length : Nat), ((mk1 a).length + x.length + (mk1 b).length + d.length : Nat)])
  refine h _ _ _ (F1.push _) (News.push F1 N1 _) (fun p hp => Heap.lt_size (N p hp).1) ?_
  rw [Heap.size_push]
  exact Nat.lt_succ_self _
theorem match49_fail {T : List Nat} {t : Tok} {Q : Value → Shared → Prop} (F : Fr h₀ L s.heap m) (X₀ : (Mine.hd.heap_39 w.params).In h₀) (hT : NoPlace T) (len : T.length ≤ 100) (h : Q .none s) :
    wpAny (model prog w) A (call (.builtin "re.Pattern.match") [.ref 49, .str ⟨T.toArray⟩ t]) Q E s := by
  obtain ⟨op, fs, t6, t2, hl, hc, _, hdt, h6, h2, h5⟩ := coord_obj w.params
  obtain ⟨oc, items, n, hcl, hcd, hit⟩ := coord_code w.params
  refine pat_match_gen ((X₀.keeps F.keep) _ _ hl) hc hdt h6 h2 h5 ((X₀.keeps F.keep) _ _ hcl) hcd hit len ?_
  exact answer_fail 15 (by omega) hT.fails ⟨_, rfl, h⟩
theorem groups_N {M S P : Addr} {x : List Nat} {t : Tok} {n b0 e0 b1 e1 : Nat} {rest : List (Addr × Obj)} {Q : Value → Shared → Prop} (F : Fr h₀ L s.heap m) (N : News h₀ L s.heap ((M, matchO P S (.str ⟨x.toArray⟩ t) n) :: (S, spansO [0, (n : Int), b0, e0, b1, e1]) :: rest)) (hx : x.length ≤ 100)
    (h : ∀ D h' t1 t2 tk', Fr h₀ L h' m → News h₀ L h' ((D, { cls := .type "tuple", data := .seq [Value.str ⟨x.toArray.extract b0 e0⟩ t1, .str ⟨x.toArray.extract b1 e1⟩ t2].toArray }) :: rest) → (∀ p ∈ rest, p.1 < D) → Q (.ref D) { s with heap := h', toks := tk' }) :
    wpAny (model prog w) A (call (.builtin "re.Match.groups") [.ref M]) Q E s :=
  call_groups (N _ (.head _)).1 (N _ (.tail _ (.head _))).1 hx (h _ _ _ _ _ (F.push _) (fun p hp => by
    rcases List.mem_cons.mp hp with rfl | hp
    · exact News.push F N _ rfl _ (.head _)
    · exact News.push F N _ rfl _ (.tail _ (.tail _ (.tail _ hp)))) fun p hp => Heap.lt_size (N p (.tail _ (.tail _ hp))).1)
theorem truthy_N {M S P : Addr} {v : Value} {n : Nat} {Q : Bool → Shared → Prop} (N : News h₀ L s.heap news) (hm : (M, matchO P S v n) ∈ news) (h : Q true s) : wpAny (model prog w) A (truthy (.ref M)) Q E s := truthy_mt (N _ hm).1 rfl h
theorem getMethod_groups_N {M S P : Addr} {v : Value} {n : Nat} {pl : Sem Bool} {Q : Value × List Value → Shared → Prop} (N : News h₀ L s.heap news) (hm : (M, matchO P S v n) ∈ news) (h : Q (.builtin "re.Match.groups", [.ref M]) s) : wpAny (model prog w) A (getMethod (.ref M) "groups" pl) Q E s := getMethod_groups (N _ hm).1 rfl rfl h
theorem getMethod_groupdict_N {M S P : Addr} {v : Value} {n : Nat} {pl : Sem Bool} {Q : Value × List Value → Shared → Prop} (N : News h₀ L s.heap news) (hm : (M, matchO P S v n) ∈ news) (h : Q (.builtin "re.Match.groupdict", [.ref M]) s) : wpAny (model prog w) A (getMethod (.ref M) "groupdict" pl) Q E s := getMethod_groupdict (N _ hm).1 rfl rfl h
theorem placeL_length {a b : Bool} {x d : List Nat} : (placeL a b x d).length = (mk1 a).length + x.length + (mk1 b).length + d.length := by simp [placeL]; omega
theorem mk1_le (a : Bool) : (mk1 a).length ≤ 1 := by cases a <;> simp [mk1]
theorem Digits.le {d : List Nat} (h : Digits d) : 1 ≤ d.length ∧ d.length ≤ 7 := by
  have := h.1
  simp only [List.mem_cons, List.not_mem_nil, or_false] at this
  omega
theorem placeL_le {a b : Bool} {x d : List Nat} (hx : Letters x) (hd : Digits d) : (placeL a b x d).length ≤ 12 := by
  rw [placeL_length]
  have := mk1_le a
  have := mk1_le b
  have := hx.2.1
  have := hd.le.2
  omega
theorem ext_mid (u v w : List Nat) : (u ++ v ++ w).toArray.extract u.length (u.length + v.length) = v.toArray := by
  apply Array.toList_inj.mp
  simp
theorem place_col {a b : Bool} {x d : List Nat} : (placeL a b x d).toArray.extract (mk1 a).length ((mk1 a).length + x.length) = x.toArray := by
  have := ext_mid (mk1 a) x (mk1 b ++ d)
  rw [show mk1 a ++ x ++ (mk1 b ++ d) = placeL a b x d by simp [placeL]] at this
  exact this
theorem place_row {a b : Bool} {x d : List Nat} : (placeL a b x d).toArray.extract ((mk1 a).length + x.length + (mk1 b).length) ((mk1 a).length + x.length + (mk1 b).length + d.length) = d.toArray := by
  have := ext_mid (mk1 a ++ x ++ mk1 b) d []
  rw [show mk1 a ++ x ++ mk1 b ++ d ++ [] = placeL a b x d by simp [placeL], show (mk1 a ++ x ++ mk1 b).length = (mk1 a).length + x.length + (mk1 b).length by simp; omega] at this
  exact this
/-- the tuple that «groups» gives -/
def pairO (v u : Value) : Obj := { cls := .type "tuple", data := .seq [v, u].toArray }
theorem groups49 {M S : Addr} {a b : Bool} {x d : List Nat} {t : Tok} {rest : List (Addr × Obj)} {Q : Value → Shared → Prop} (F : Fr h₀ L s.heap m) (N : News h₀ L s.heap ((M, matchO 49 S (.str ⟨(placeL a b x d).toArray⟩ t) (placeL a b x d).length) :: (S, spansO [0, ((placeL a b x d).length : Int), ((mk1 a).length : Nat), ((mk1 a).length + x.length : Nat), ((mk1 a).length + x.length + (mk1 b).length : Nat), ((mk1 a).length + x.length + (mk1 b).length + d.length : Nat)]) :: rest))
    (hx : Letters x) (hd : Digits d) (h : ∀ D h' t1 t2 tk', Fr h₀ L h' m → News h₀ L h' ((D, { cls := .type "tuple", data := .seq [Value.str ⟨x.toArray⟩ t1, .str ⟨d.toArray⟩ t2].toArray }) :: rest) → (∀ p ∈ rest, p.1 < D) → Q (.ref D) { s with heap := h', toks := tk' }) :
    wpAny (model prog w) A (call (.builtin "re.Match.groups") [.ref M]) Q E s := by
  refine groups_N F N (Nat.le_trans (placeL_le hx hd) (by omega)) ?_
  rw [place_col, place_row]
  exact h
theorem int_digits {d : List Nat} {t : Tok} {Q : Value → Shared → Prop} (hd : Digits d) (h : Q (.int ((NumText.digitsVal d : Nat) : Int) s.toks) { s with toks := s.toks + 1 }) : wpAny (model prog w) A (call (.type "int") [.str ⟨d.toArray⟩ t]) Q E s := by
  have l := hd.le
  have e := PySem.intText_digits (x := ⟨d.toArray⟩) (fun c hc => hd.2 c hc) (fun q => by rw [show (⟨d.toArray⟩ : Str).cps.toList = d from rfl] at q; rw [q] at l; simp at l) (by rw [len_mk]; omega)
  exact KIN.call_text e (by rw [len_mk]; omega) h
end
end
section
theorem off_L0 : True := by
  w_top off
  trivial
local macro_rules | `(tactic| k_all) => `(tactic| assumption)
local macro_rules | `(tactic| walk_at "M enter") => `(tactic| (refine wpAny_call ?_; k_dflt (refine' code_def ?k1 ?k2 ?k3 ?k4 ?k5 ?kA ?kF ?kK ?k6 ?k7 ?k8 ?k9 ?kB ?_ ?c2 ?c3 ?c4 ?c5; (case kA => first | assumption | exact rfl); (case kF => assumption); (case kK => assumption); (case k1 => k_asm); (case k2 => k_asm); (case k3 => k_asm); (case k4 => k_asm); (case k5 => k_asm); (case k6 => k_is); (case k7 => k_is); (case k8 => first | omega | (dsimp only; omega)); (case k9 => exact BindsTo.of_eq rfl); (case c5 => decide); (case kB => exact locs rfl); (case c2 => exact rfl); (case c3 => exact rfl); (case c4 => exact rfl); k_whole)))
local macro_rules | `(tactic| walk_at "M enterT") => `(tactic| (refine wpAny_call ?_; k_dflt (refine' code_defT ?k1 ?k2 ?k3 ?k4 ?k5 ?kA ?kF ?kK ?k6 ?k7 ?k8 ?k9 ?kB ?_ ?c2 ?c3 ?c4 ?c5; (case kA => first | assumption | exact rfl); (case kF => assumption); (case kK => assumption); (case k1 => k_asm); (case k2 => k_asm); (case k3 => k_asm); (case k4 => k_asm); (case k5 => k_asm); (case k6 => k_is); (case k7 => k_is); (case k8 => first | omega | (dsimp only; omega)); (case k9 => exact BindsTo.of_eq rfl); (case c5 => decide); (case kB => exact locs rfl); (case c2 => exact rfl); (case c3 => exact rfl); (case c4 => exact rfl); k_whole)))
local macro_rules | `(tactic| walk_at "M open") => `(tactic| (rename Around => A9; rename (Around.frames _ = _) => hA9; rename (Around.handled _ = _) => hh9; revert hA9 hh9; rename (Around.depth _ + _ < _) => hd9; revert hd9; rename (Around.units _ + _ < _) => hu9; revert hu9; cases A9; dsimp only; intro hu9 hd9 hA9 hh9; subst hA9; subst hh9))
local macro_rules | `(tactic| walk_at "M noloop") => `(tactic| ((fail_if_success (with_reducible show wpAny _ _ (exec (Stmt.While _ _ _ _) _) _ _ _)); (fail_if_success (with_reducible show wpAny _ _ (exec (Stmt.For _ _ _ _ _) _) _ _ _)); (fail_if_success (with_reducible show LCg.CompSrc _ _ _ _ _ _ _ _ _ _ _ _ _ _)); (fail_if_success (with_reducible show wpAny _ _ (eval (PySem.Expr.ListComp _ _ _ _) _) _ _ _)); (fail_if_success (with_reducible show wpAny _ _ _ (fun it s₂ => PairAt3 _ _ _ _ _ _ _ _ _ _ it s₂) _ _))))
local macro_rules | `(tactic| walk_at "M go") => `(tactic| repeat' (walk_at "M noloop"; first | (k_unfold; (try dsimp only)) | (k_end; kc_close) | walk1 | (dsimp only; walk1) | (leave1; walk_say "STEP leave1"; (try dsimp only)) | fail "no step"))
local macro_rules | `(tactic| walk_at "And") => `(tactic| ((with_reducible show PySem.Str.length (_ ++ _) ≤ sizeLine ∧ wpAny _ _ (joinParts _ _) _ _ _); refine fs_and (by (simp only [len_mk, show Str.length Str.empty = 0 from rfl] at *); omega) ?_; intro zF hzF))
local macro_rules | `(tactic| walk_at "joinParts") => `(tactic| (first | (with_reducible show wpAny _ _ (joinParts _ []) _ _ _) | (with_reducible refine joinParts_nilE ?_)); refine fs_nil (by (simp only [len_mk, show Str.length Str.empty = 0 from rfl] at *); omega) ?_)
local macro_rules | `(tactic| walk_at "M enterC") => `(tactic| (refine wpAny_call ?_; k_dflt (refine' code_defC ?k1 ?k2 ?k3 ?k4 ?k5 ?kA ?kF ?kK ?k6 ?k7 ?k8 ?k9 ?kB ?kD ?_ ?c2 ?c3 ?c4; (case kA => first | assumption | exact rfl); (case kF => assumption); (case kK => assumption); (case k1 => k_asm); (case k2 => k_asm); (case k3 => k_asm); (case k4 => k_asm); (case k5 => k_asm); (case k6 => k_is); (case k7 => k_is); (case k8 => first | omega | (dsimp only; omega)); (case k9 => exact BindsTo.of_eq rfl); (case kB => exact rfl); (case kD => decide +kernel); (case c2 => exact rfl); (case c3 => exact rfl); (case c4 => exact rfl); k_whole)))
local macro_rules | `(tactic| walk_at "M next") => `(tactic| (k_here; (with_reducible show wpAny _ _ (call (Value.ref 105) [Value.ref _, Value.int _ _]) _ _ _); k_dflt (refine' next_u ?B ?F ?X ?N ?T ?hA ?hf ?hke ?hh ?hd ?hu ?hst ?hos ?U ?hsc ?m0 ?m1 ?_; (case hA => exact rfl); (case hf => exact rfl); (case hke => exact rfl); (case hh => exact rfl); (case B => k_asm); (case F => k_asm); (case X => k_asm); (case N => k_asm); (case T => k_asm); (case hst => assumption); (case hos => assumption); (case U => k_updF); (case hsc => k_mem); (case hd => ktr_room); (case hu => ktr_units); (case m0 => omega); (case m1 => omega)); intro r9 t9 o9 h9 tk9 hr0 hr1 hst9 F9 N9; (try dsimp only at N9)))
theorem lettersL_az : ∀ f n, ∀ c ∈ lettersL f n, 65 ≤ c ∧ c ≤ 90
  | 0, _, c, h => nomatch h
  | f + 1, n, c, h => by
    unfold lettersL at h
    split at h
    · cases h
    · rcases List.mem_append.mp h with h | h
      · exact lettersL_az f _ c h
      · rw [List.mem_singleton.mp h]; omega
theorem numFold_snoc : ∀ (l : List Nat) (a v c : Nat), numFold a l = some v → 65 ≤ c → c ≤ 90 → numFold a (l ++ [c]) = some (26 * v + (c - 64))
  | [], a, v, c, h, h0, h1 => by
    unfold numFold at h
    cases h
    show numFold a [c] = _
    unfold numFold
    rw [if_pos ⟨h0, h1⟩]
    rfl
  | b :: r, a, v, c, h, h0, h1 => by
    unfold numFold at h
    rw [List.cons_append]
    unfold numFold
    split at h
    · rename_i hb
      rw [if_pos hb]
      exact numFold_snoc r _ v c h h0 h1
    · cases h
theorem numFold_letters : ∀ f n, n < lettersB f + 1 → numFold 0 (lettersL f n) = some n
  | 0, n, h => by
    have : n = 0 := by simp [lettersB] at h; exact h
    subst this
    rfl
  | f + 1, n, h => by
    unfold lettersL
    split
    · rename_i h0; subst h0; rfl
    · rename_i h0
      have hb : (n - 1) / 26 < lettersB f + 1 := by
        unfold lettersB at h
        omega
      rw [numFold_snoc _ _ _ _ (numFold_letters f _ hb) (by omega) (by omega)]
      congr 1
      omega
theorem lettersL_len : ∀ n, 1 ≤ n → n ≤ 18278 → 1 ≤ (lettersL 5 n).length ∧ (lettersL 5 n).length ≤ 3 := by
  intro n h1 h2
  have e : lettersL 5 n = lettersL 4 ((n - 1) / 26) ++ [65 + (n - 1) % 26] := by
    show (if n = 0 then [] else _) = _
    rw [if_neg (by omega)]
  rw [e, List.length_append, List.length_singleton]
  refine ⟨by omega, ?_⟩
  have h3 : (n - 1) / 26 ≤ 702 := by omega
  generalize (n - 1) / 26 = k at h3
  by_cases hk : k = 0
  · subst hk; show 0 + 1 ≤ 3; omega
  have e : lettersL 4 k = lettersL 3 ((k - 1) / 26) ++ [65 + (k - 1) % 26] := by
    show (if k = 0 then [] else _) = _
    rw [if_neg hk]
  rw [e, List.length_append, List.length_singleton]
  have h4 : (k - 1) / 26 ≤ 26 := by omega
  generalize (k - 1) / 26 = j at h4
  by_cases hj : j = 0
  · subst hj; show 0 + 1 + 1 ≤ 3; omega
  have e : lettersL 3 j = lettersL 2 ((j - 1) / 26) ++ [65 + (j - 1) % 26] := by
    show (if j = 0 then [] else _) = _
    rw [if_neg hj]
  rw [e, List.length_append, List.length_singleton]
  have h5 : (j - 1) / 26 = 0 := by omega
  rw [h5]
  show 0 + 1 + 1 + 1 ≤ 3
  omega
theorem numV_letters (n : Nat) (h1 : 1 ≤ n) (h2 : n ≤ 18278) : numV (lettersL 5 n) (lettersL 5 n).length = some (n : Int) := by
  have hl := lettersL_len n h1 h2
  unfold numV
  rw [numFold_letters 5 n (by simp [lettersB]; omega)]
  dsimp only
  rw [if_pos (by omega)]
theorem MixedL.az : ∀ {x y : List Nat}, MixedL x y → (∀ c ∈ x, 65 ≤ c ∧ c ≤ 90) → ∀ c ∈ y, (65 ≤ c ∧ c ≤ 90) ∨ (97 ≤ c ∧ c ≤ 122)
  | _, _, .nil, _, c, h => nomatch h
  | _, _, .cons (a := a) (b := b) hb r, hx, c, h => by
    have ha := hx a (.head _)
    rcases List.mem_cons.mp h with rfl | h
    · rcases hb with rfl | rfl
      · exact .inl ha
      · exact .inr (by omega)
    · exact r.az (fun c hc => hx c (.tail _ hc)) c h
theorem MixedL.refl : ∀ x : List Nat, MixedL x x
  | [] => .nil
  | _ :: r => .cons (.inl rfl) (MixedL.refl r)
theorem MixedL.low : ∀ x : List Nat, MixedL x (x.map (· + 32))
  | [] => .nil
  | _ :: r => .cons (.inr rfl) (MixedL.low r)
theorem MixedL.letters {n : Nat} {y : List Nat} (h : MixedL (lettersL 5 n) y) (h1 : 1 ≤ n) (h2 : n ≤ 18278) : Letters y := by
  have hl := lettersL_len n h1 h2
  have := h.length
  exact ⟨by omega, by omega, h.az (lettersL_az 5 n)⟩
theorem upper_mixed {x y : List Nat} (h : MixedL x y) (hx : ∀ c ∈ x, 65 ≤ c ∧ c ≤ 90) : Txt.upper ⟨y.toArray⟩ = ⟨x.toArray⟩ := by
  have hy := h.az hx
  rw [upper_ascii (fun c hc => by have := hy c hc; omega)]
  congr 1
  apply Array.toList_inj.mp
  show (Array.map up1 y.toArray).toList = x
  rw [Array.toList_map]
  clear hy
  induction h with
  | nil => rfl
  | cons hb r ih =>
    have ha := hx _ (.head _)
    rw [List.map_cons, ih fun c hc => hx c (.tail _ hc)]
    congr 1
    unfold up1
    rcases hb with rfl | rfl
    · rw [if_neg (by omega)]
    · rw [if_pos (by omega)]; omega
theorem lower_az {x : List Nat} (hx : ∀ c ∈ x, 65 ≤ c ∧ c ≤ 90) : Txt.lower ⟨x.toArray⟩ = ⟨(x.map (· + 32)).toArray⟩ := by
  rw [lower_ascii (fun c hc => by have := hx c hc; omega)]
  congr 1
  apply Array.toList_inj.mp
  show (Array.map lo1 x.toArray).toList = x.map (· + 32)
  rw [Array.toList_map]
  induction x with
  | nil => rfl
  | cons c r ih =>
    have ha := hx _ (.head _)
    have e : List.map lo1 r = r.map (· + 32) := ih fun c hc => hx c (.tail _ hc)
    show lo1 c :: List.map lo1 r = (c + 32) :: r.map (· + 32)
    rw [e]
    congr 1
    unfold lo1
    rw [if_pos ha]
/-- the nine signs and their capitals -/
def sgn : List Nat := [65, 98, 90, 49, 36, 121, 58, 233, 32]
def upS (c : Nat) : Nat := if c = 98 then 66 else if c = 121 then 89 else if c = 233 then 201 else c
theorem upS_of : ∀ c ∈ sgn, Unicode.upperOf c = [upS c] := by decide +kernel
theorem upper_sgn {y : List Nat} (h : ∀ c ∈ y, c ∈ sgn) : Txt.upper ⟨y.toArray⟩ = ⟨(y.map upS).toArray⟩ := by
  unfold Txt.upper
  rw [placed_single ⟨y.toArray⟩ _ upS fun i c hc => upS_of c (h c (List.mem_of_getElem? hc))]
  congr 1
  apply Array.toList_inj.mp
  simp
theorem sgn_text : (Str.ofString "AbZ1$y:é ").cps.toList = sgn := by decide +kernel
/-- the rows that the law can draw, and their texts -/
def rowL : List (Int × List Nat) := [(0, [48]), (1, [49]), (2, [50]), (3, [51]), (10, [49, 48]), (11, [49, 49]), (12, [49, 50]), (1048576, [49, 48, 52, 56, 53, 55, 54]), (1048577, [49, 48, 52, 56, 53, 55, 55]), (1048578, [49, 48, 52, 56, 53, 55, 56])]
theorem row_texts : rowL.all (fun p => (Str.ofString (toString p.1)).cps.toList == p.2 && decide (((NumText.digitsVal p.2 : Nat) : Int) = p.1) && [1, 2, 7].contains p.2.length && p.2.all fun c => decide (48 ≤ c ∧ c ≤ 57)) = true := by decide +kernel
theorem row_text {r : Int} (h : r ∈ rowL.map (·.1)) : ∃ d, Str.ofString (toString r) = ⟨d.toArray⟩ ∧ Digits d ∧ ((NumText.digitsVal d : Nat) : Int) = r := by
  obtain ⟨⟨a, d⟩, hm, rfl⟩ := List.mem_map.mp h
  have := List.all_eq_true.mp row_texts _ hm
  simp only [Bool.and_eq_true, beq_iff_eq, decide_eq_true_eq, List.all_eq_true] at this
  obtain ⟨⟨⟨h1, h2⟩, h3⟩, h4⟩ := this
  refine ⟨d, ?_, ⟨?_, h4⟩, h2⟩
  · apply congrArg Str.mk (a₁ := (Str.ofString (toString a)).cps)
    apply Array.toList_inj.mp
    exact h1
  · simpa using h3
end
section
theorem off_S5 : True := by
  w_top off
  trivial
local macro_rules | `(tactic| walk_at "M none") => `(tactic| fail "none")
local macro_rules | `(tactic| walk_at "M none") => `(tactic| fail "none")
local macro_rules | `(tactic| walk_at "M none") => `(tactic| fail "none")
local macro_rules | `(tactic| walk_at "M none") => `(tactic| fail "none")
local macro_rules | `(tactic| walk_at "M none") => `(tactic| fail "none")
local macro_rules | `(tactic| walk_at "M none") => `(tactic| fail "none")
local macro_rules | `(tactic| walk_at "M none") => `(tactic| fail "none")
local macro_rules | `(tactic| walk_at "M none") => `(tactic| fail "none")
local macro_rules | `(tactic| walk_at "M none") => `(tactic| fail "none")
local macro_rules | `(tactic| walk_at "M none") => `(tactic| fail "none")
local macro_rules | `(tactic| walk_at "M none") => `(tactic| fail "none")
local macro_rules | `(tactic| walk_at "M none") => `(tactic| fail "none")
local macro_rules | `(tactic| walk_at "M none") => `(tactic| fail "none")
local macro_rules | `(tactic| walk_at "M none") => `(tactic| fail "none")
local macro_rules | `(tactic| walk_at "M none") => `(tactic| fail "none")
local macro_rules | `(tactic| walk_at "M none") => `(tactic| fail "none")
local macro_rules | `(tactic| walk_at "M none") => `(tactic| fail "none")
local macro_rules | `(tactic| walk_at "M none") => `(tactic| fail "none")
local macro_rules | `(tactic| walk_at "M none") => `(tactic| fail "none")
local macro_rules | `(tactic| walk_at "M none") => `(tactic| fail "none")
local macro_rules | `(tactic| walk_at "M none") => `(tactic| fail "none")
local macro_rules | `(tactic| walk_at "M none") => `(tactic| fail "none")
local macro_rules | `(tactic| walk_at "M none") => `(tactic| fail "none")
local macro_rules | `(tactic| walk_at "M none") => `(tactic| fail "none")
local macro_rules | `(tactic| walk_at "M none") => `(tactic| fail "none")
local macro_rules | `(tactic| walk_at "M none") => `(tactic| fail "none")
local macro_rules | `(tactic| walk_at "M none") => `(tactic| fail "none")
local macro_rules | `(tactic| walk_at "M none") => `(tactic| fail "none")
local macro_rules | `(tactic| walk_at "M none") => `(tactic| fail "none")
local macro_rules | `(tactic| walk_at "M none") => `(tactic| fail "none")
local macro_rules | `(tactic| k_all) => `(tactic| assumption)
local macro_rules | `(tactic| walk_at "M enter") => `(tactic| (refine wpAny_call ?_; k_dflt (refine' code_def ?k1 ?k2 ?k3 ?k4 ?k5 ?kA ?kF ?kK ?k6 ?k7 ?k8 ?k9 ?kB ?_ ?c2 ?c3 ?c4 ?c5; (case kA => first | assumption | exact rfl); (case kF => assumption); (case kK => assumption); (case k1 => k_asm); (case k2 => k_asm); (case k3 => k_asm); (case k4 => k_asm); (case k5 => k_asm); (case k6 => k_is); (case k7 => k_is); (case k8 => first | omega | (dsimp only; omega)); (case k9 => exact BindsTo.of_eq rfl); (case c5 => decide); (case kB => exact locs rfl); (case c2 => exact rfl); (case c3 => exact rfl); (case c4 => exact rfl); k_whole)))
local macro_rules | `(tactic| walk_at "M enterT") => `(tactic| (refine wpAny_call ?_; k_dflt (refine' code_defT ?k1 ?k2 ?k3 ?k4 ?k5 ?kA ?kF ?kK ?k6 ?k7 ?k8 ?k9 ?kB ?_ ?c2 ?c3 ?c4 ?c5; (case kA => first | assumption | exact rfl); (case kF => assumption); (case kK => assumption); (case k1 => k_asm); (case k2 => k_asm); (case k3 => k_asm); (case k4 => k_asm); (case k5 => k_asm); (case k6 => k_is); (case k7 => k_is); (case k8 => first | omega | (dsimp only; omega)); (case k9 => exact BindsTo.of_eq rfl); (case c5 => decide); (case kB => exact locs rfl); (case c2 => exact rfl); (case c3 => exact rfl); (case c4 => exact rfl); k_whole)))
local macro_rules | `(tactic| walk_at "M open") => `(tactic| (rename Around => A9; rename (Around.frames _ = _) => hA9; rename (Around.handled _ = _) => hh9; revert hA9 hh9; rename (Around.depth _ + _ < _) => hd9; revert hd9; rename (Around.units _ + _ < _) => hu9; revert hu9; cases A9; dsimp only; intro hu9 hd9 hA9 hh9; subst hA9; subst hh9))
local macro_rules | `(tactic| walk_at "M noloop") => `(tactic| ((fail_if_success (with_reducible show wpAny _ _ (exec (Stmt.While _ _ _ _) _) _ _ _)); (fail_if_success (with_reducible show wpAny _ _ (exec (Stmt.For _ _ _ _ _) _) _ _ _)); (fail_if_success (with_reducible show LCg.CompSrc _ _ _ _ _ _ _ _ _ _ _ _ _ _)); (fail_if_success (with_reducible show wpAny _ _ (eval (PySem.Expr.ListComp _ _ _ _) _) _ _ _)); (fail_if_success (with_reducible show wpAny _ _ _ (fun it s₂ => PairAt3 _ _ _ _ _ _ _ _ _ _ it s₂) _ _))))
local macro_rules | `(tactic| walk_at "M go") => `(tactic| repeat' (walk_at "M noloop"; first | (k_unfold; (try dsimp only)) | (k_end; kc_close) | walk1 | (dsimp only; walk1) | (leave1; walk_say "STEP leave1"; (try dsimp only)) | fail "no step"))
local macro_rules | `(tactic| walk_at "And") => `(tactic| ((with_reducible show PySem.Str.length (_ ++ _) ≤ sizeLine ∧ wpAny _ _ (joinParts _ _) _ _ _); refine fs_and (by (simp only [len_mk, show Str.length Str.empty = 0 from rfl] at *); omega) ?_; intro zF hzF))
local macro_rules | `(tactic| walk_at "joinParts") => `(tactic| (first | (with_reducible show wpAny _ _ (joinParts _ []) _ _ _) | (with_reducible refine joinParts_nilE ?_)); refine fs_nil (by (simp only [len_mk, show Str.length Str.empty = 0 from rfl] at *); omega) ?_)
local macro_rules | `(tactic| walk_at "M enterC") => `(tactic| (refine wpAny_call ?_; k_dflt (refine' code_defC ?k1 ?k2 ?k3 ?k4 ?k5 ?kA ?kF ?kK ?k6 ?k7 ?k8 ?k9 ?kB ?kD ?_ ?c2 ?c3 ?c4; (case kA => first | assumption | exact rfl); (case kF => assumption); (case kK => assumption); (case k1 => k_asm); (case k2 => k_asm); (case k3 => k_asm); (case k4 => k_asm); (case k5 => k_asm); (case k6 => k_is); (case k7 => k_is); (case k8 => first | omega | (dsimp only; omega)); (case k9 => exact BindsTo.of_eq rfl); (case kB => exact rfl); (case kD => decide +kernel); (case c2 => exact rfl); (case c3 => exact rfl); (case c4 => exact rfl); k_whole)))
local macro_rules | `(tactic| walk_at "M next") => `(tactic| (k_here; (with_reducible show wpAny _ _ (call (Value.ref 105) [Value.ref _, Value.int _ _]) _ _ _); k_dflt (refine' next_u ?B ?F ?X ?N ?T ?hA ?hf ?hke ?hh ?hd ?hu ?hst ?hos ?U ?hsc ?m0 ?m1 ?_; (case hA => exact rfl); (case hf => exact rfl); (case hke => exact rfl); (case hh => exact rfl); (case B => k_asm); (case F => k_asm); (case X => k_asm); (case N => k_asm); (case T => k_asm); (case hst => assumption); (case hos => assumption); (case U => k_updF); (case hsc => k_mem); (case hd => ktr_room); (case hu => ktr_units); (case m0 => omega); (case m1 => omega)); intro r9 t9 o9 h9 tk9 hr0 hr1 hst9 F9 N9; (try dsimp only at N9)))
theorem names51 (P : Params) : ∃ n e0 e1 e2 e3 t0 t1 t2 t3 u0 u1 u2 u3, (Mine.hd.heap_39 P).lookup 51 = some ⟨.type "dict", none, .dict #[e0, e1, e2, e3] n, #[]⟩ ∧ KeysLit P [e0, e1, e2, e3] ∧
    e0.key = .str (Str.ofString "min_col") t0 ∧ e1.key = .str (Str.ofString "min_row") t1 ∧ e2.key = .str (Str.ofString "max_col") t2 ∧ e3.key = .str (Str.ofString "max_row") t3 ∧
    nsIn (Mine.hd.heap_39 P) 51 (Str.ofString "min_col") = some (some (.int ((1 : Nat) : Int) u0)) ∧ nsIn (Mine.hd.heap_39 P) 51 (Str.ofString "min_row") = some (some (.int ((2 : Nat) : Int) u1)) ∧
    nsIn (Mine.hd.heap_39 P) 51 (Str.ofString "max_col") = some (some (.int ((4 : Nat) : Int) u2)) ∧ nsIn (Mine.hd.heap_39 P) 51 (Str.ofString "max_row") = some (some (.int ((5 : Nat) : Int) u3)) := by
  refine ⟨_, _, _, _, _, _, _, _, _, _, _, _, _, rfl, ?_, rfl, rfl, rfl, rfl, rfl, rfl, rfl, rfl⟩
  repeat' (first | exact trivial | (refine ⟨⟨_, _, rfl, rfl⟩, ?_⟩))
theorem abs_obj (P : Params) : ∃ op fs t6 t2, (Mine.hd.heap_39 P).lookup 54 = some op ∧ op.cls = .type "re.Pattern" ∧ op.dict = none ∧ op.data = .fields fs ∧ fs.getD 6 .none = .int 0 t6 ∧ fs.getD 2 .none = .int ((5 : Nat) : Int) t2 ∧ fs.getD 5 .none = .ref 53 ∧ fs.getD 3 .none = .ref 51 :=
  ⟨_, _, _, _, rfl, rfl, rfl, rfl, rfl, rfl, rfl, rfl⟩
theorem abs_code (P : Params) : ∃ oc items n, (Mine.hd.heap_39 P).lookup 53 = some oc ∧ oc.data = .seq items n ∧ (items.map Builtin.Re.reRawOf).map (·.toNat) = absC := by
  refine ⟨_, _, _, rfl, rfl, ?_⟩
  decide +kernel
section
open PySem.Builtin.Re
variable {prog : Program} {w : World} {A : Around} {E : Value → Shared → Prop} {s : Shared}
theorem groupNumber_str {x : Str} {t u : Tok} {fs pf : Array Value} {sp : Array Int} {PA : Addr} {op : Obj} {es : Array DictEntry} {n g : Nat} {Q : Nat → Shared → Prop}
    (h1 : fs.getD 1 .none = .ref PA) (hp : s.heap.get? PA = some op) (hpd : op.data = .fields pf) (h3 : pf.getD 3 .none = .ref 51) (X : (Mine.hd.heap_39 w.params).In s.heap)
    (hl : (Mine.hd.heap_39 w.params).lookup 51 = some ⟨.type "dict", none, .dict es n, #[]⟩) (hk : KeysLit w.params es.toList) (hn : nsIn (Mine.hd.heap_39 w.params) 51 x = some (some (.int (g : Int) u))) (hg : 2 * g < sp.size)
    (h : ∀ tk, Q g { s with toks := tk }) : wpAny (model prog w) A (reGroupNumber ⟨fs, sp⟩ (.str x t)) Q E s := by
  unfold reGroupNumber
  refine wpAny_bind (wpAny_of_eq (a := none) (show asInt? (.str x t) = pure none from rfl) ?_)
  dsimp only [Option.isSome]
  rw [if_neg (by decide)]
  refine wpAny_bind (wpAny_specialOf (name := Str.ofString "__index__") (typeIs_str _ _ _) KIN.str_idx ?_)
  rw [if_neg (by decide)]
  rw [h1]
  refine wpAny_bind (wpAny_fieldsOf hp hpd ?_)
  rw [h3]
  dsimp only
  refine wpAny_bind (wpAny_dictGet_of (strKind_is prog w x t) (mapOf_K X hl hk) ?_)
  rw [find_K hl hn]
  dsimp only
  refine wpAny_bind (m := asInt? _) (wpAny_pure (wpAny_bind (wpAny_pure ?_)))
  dsimp only [Option.getD_some]
  have c : ¬ ((decide ((g : Int) < 0) || decide (2 * (g : Int) ≥ (sp.size : Int))) = true) := by simp; omega
  rw [if_neg c]
  refine wpAny_pure ?_
  rw [Int.toNat_natCast]
  exact h _
theorem stored_le {kvs : List (Str × Value)} {k : Str} {v : Value} {n : Nat} (h : kvs.length ≤ n) : (stored kvs k v).length ≤ n + 1 := by
  unfold stored
  split
  · rw [List.length_map]; omega
  · rw [List.length_append]; simp; omega
theorem stored4 (a b c d : Value) : stored (stored (stored (stored ([] : List (Str × Value)) (Str.ofString "min_col") a) (Str.ofString "min_row") b) (Str.ofString "max_col") c) (Str.ofString "max_row") d =
    [(Str.ofString "min_col", a), (Str.ofString "min_row", b), (Str.ofString "max_col", c), (Str.ofString "max_row", d)] := by rfl
/-- one entry of the dict that «groupdict» makes -/
theorem gd_turn {h₁ : Heap} {D : Addr} {kvs : List (Str × Value)} {k : Str} {t u : Tok} {fs pf : Array Value} {sp : Array Int} {PA : Addr} {op : Obj} {es : Array DictEntry} {n g : Nat} {d : Value} {R : Value → Prop} {e : DictEntry} {Q : ForInStep PUnit → Shared → Prop}
    (X : (Mine.hd.heap_39 w.params).In h₁) (hk₁ : ∀ b o, h₁.get? b = some o → s.heap.get? b = some o) (hD : h₁.get? D = none) (hd : s.heap.DictOf (strKind prog w) D kvs) (hkl : kvs.length ≤ 10)
    (h1 : fs.getD 1 .none = .ref PA) (hp : h₁.get? PA = some op) (hpd : op.data = .fields pf) (h3 : pf.getD 3 .none = .ref 51)
    (hl : (Mine.hd.heap_39 w.params).lookup 51 = some ⟨.type "dict", none, .dict es n, #[]⟩) (hk : KeysLit w.params es.toList) (he : e.key = .str k t) (hn : nsIn (Mine.hd.heap_39 w.params) 51 k = some (some (.int (g : Int) u))) (hg : 2 * g < sp.size)
    (ht : ∀ (s' : Shared) (Q' : Value → Shared → Prop), (∀ v tk, R v → Q' v { s' with toks := tk }) → wpAny (model prog w) A (reGroupText ⟨fs, sp⟩ g d) Q' E s')
    (h : ∀ h' tk v, R v → h'.DictOf (strKind prog w) D (stored kvs k v) → (∀ b o, h₁.get? b = some o → h'.get? b = some o) → Q (.yield ⟨⟩) { s with heap := h', toks := tk }) :
    wpAny (model prog w) A (do holding [.ref D] do dictSet D e.key (← reGroupText ⟨fs, sp⟩ (← reGroupNumber ⟨fs, sp⟩ e.key) d)
                               pure (ForInStep.yield PUnit.unit)) Q E s := by
  rw [he]
  refine wpAny_bind (wpAny_holding (wpAny_bind (groupNumber_str h1 (hk₁ _ _ hp) hpd h3 (X.keeps hk₁) hl hk hn hg fun tk => ?_)))
  refine wpAny_bind (ht _ _ fun v tk' hR => ?_)
  refine wpAny_dictSet_pairs (strKind_is prog w k t) hd (fun h' hd' hs => wpAny_pure (h h' _ v hR hd' fun b o hb => ?_)) (by rw [sizeLine_eq]; omega)
  exact (hs.2 b fun q => by rw [q, hD] at hb; cases hb).trans (hk₁ b o hb)
theorem call_groupdict {M S D₀ : Addr} {x : List Nat} {t td : Tok} {n b0 e0 b1 e1 : Nat} {dflt : Value} {Q : Value → Shared → Prop} (X : (Mine.hd.heap_39 w.params).In s.heap)
    (hM : s.heap.get? M = some (matchO 54 S (.str ⟨x.toArray⟩ t) n)) (hS : s.heap.get? S = some (spansO [0, (n : Int), b0, e0, b1, e1, -1, -1, -1, -1, -1, -1])) (hx : x.length ≤ 100)
    (h : ∀ h' tk t1 t2, h'.DictOf (strKind prog w) s.heap.objs.size [(Str.ofString "min_col", .str ⟨x.toArray.extract b0 e0⟩ t1), (Str.ofString "min_row", .str ⟨x.toArray.extract b1 e1⟩ t2), (Str.ofString "max_col", dflt), (Str.ofString "max_row", dflt)] →
      (∀ b o, s.heap.get? b = some o → h'.get? b = some o) → Q (.ref s.heap.objs.size) { s with heap := h', toks := tk }) :
    wpAny (model prog w) A (call (.builtin "re.Match.groupdict") [.ref M, dflt]) Q E s := by
  obtain ⟨nn, q0, q1, q2, q3, t0, t1, t2, t3, u0, u1, u2, u3, hl, hk, k0, k1, k2, k3, n0, n1, n2, n3⟩ := names51 w.params
  obtain ⟨op, pf, _, _, hpl, _, _, hpd, _, _, _, h3⟩ := abs_obj w.params
  have hp := X _ _ hpl
  refine wpAny_call_entry slot_mt_groupdict ⟨_, hM, rfl⟩ entry_mt_groupdict ?_ (args_mt_groupdict _ _)
  unfold Builtin.«re.Match.groupdict»
  refine wpAny_bind ?_
  unfold reWithDefault
  dsimp only
  rw [reNamed_groupdict]
  refine wpAny_bind (wpAny_pure ?_)
  dsimp only
  refine wpAny_bind ?_
  unfold reFound
  refine wpAny_bind (wpAny_fieldsOf hM rfl ?_)
  refine wpAny_bind (m := reRawItems _) (wpAny_bind (wpAny_seqItems hS rfl (wpAny_pure (wpAny_pure (wpAny_pure ?_)))))
  dsimp only
  rw [show Array.map reRawOf ((some (List.map rawInt [0, (n : Int), b0, e0, b1, e1, -1, -1, -1, -1, -1, -1]).toArray).getD #[]) = #[0, (n : Int), b0, e0, b1, e1, -1, -1, -1, -1, -1, -1] by simp [reRawOf, rawInt]]
  refine wpAny_bind (m := newDict) (wpAny_newObj_type ?_ (by size_fits))
  refine wpAny_bind (wpAny_fieldsOf (Heap.get?_push_of_some _ hp) hpd ?_)
  rw [h3]
  dsimp only
  have hl' := Heap.get?_push_of_some { cls := .type "dict", data := .dict #[] } (X _ _ hl)
  refine wpAny_bind (m := dictEntries 51) ?_
  unfold dictEntries
  refine wpAny_bind (wpAny_loadPart hl' (wpAny_pure ?_))
  rw [← Array.forIn_toList]
  have kk : ∀ b o, s.heap.get? b = some o → (s.heap.push { cls := .type "dict", data := .dict #[] }).get? b = some o := fun b o hb => Heap.get?_push_of_some _ hb
  have hD : s.heap.get? s.heap.objs.size = none := Heap.get?_none_of_le (Nat.le_refl _)
  have d0 := Heap.DictOf.new (knd := strKind prog w) s.heap
  have inR : ∀ g b e, (#[0, (n : Int), b0, e0, b1, e1, -1, -1, -1, -1, -1, -1] : Array Int).getD (2 * g) (-1) = ((b : Nat) : Int) → (#[0, (n : Int), b0, e0, b1, e1, -1, -1, -1, -1, -1, -1] : Array Int).getD (2 * g + 1) (-1) = ((e : Nat) : Int) →
      ∀ (s' : Shared) (Q' : Value → Shared → Prop), (∀ v tk, (∃ t', v = .str ⟨x.toArray.extract b e⟩ t') → Q' v { s' with toks := tk }) → wpAny (model prog w) A.in1 (reGroupText ⟨#[Value.str ⟨x.toArray⟩ t, .ref 54, rawInt 0, rawInt (n : Int), rawInt 2, .ref S], #[0, (n : Int), b0, e0, b1, e1, -1, -1, -1, -1, -1, -1]⟩ g dflt) Q' E s' :=
    fun g b e hb he s' Q' q => groupText_in (b := b) (e := e) rfl hb he hx (q _ _ ⟨_, rfl⟩)
  have outR : ∀ g, (#[0, (n : Int), b0, e0, b1, e1, -1, -1, -1, -1, -1, -1] : Array Int).getD (2 * g) (-1) = -1 →
      ∀ (s' : Shared) (Q' : Value → Shared → Prop), (∀ v tk, v = dflt → Q' v { s' with toks := tk }) → wpAny (model prog w) A.in1 (reGroupText ⟨#[Value.str ⟨x.toArray⟩ t, .ref 54, rawInt 0, rawInt (n : Int), rawInt 2, .ref S], #[0, (n : Int), b0, e0, b1, e1, -1, -1, -1, -1, -1, -1]⟩ g dflt) Q' E s' :=
    fun g hb s' Q' q => groupText_out hb (q _ s'.toks rfl)
  refine wpAny_bind ?_
  rw [List.forIn_cons]
  refine wpAny_bind (gd_turn (s := { s with heap := _ }) (g := 1) X kk hD d0 (by simp) rfl hp hpd h3 hl hk k0 n0 (by simp) (inR 1 b0 e0 rfl rfl) (fun h1 tk1 v1 hv1 d1 kk1 => ?_))
  dsimp only
  rw [List.forIn_cons]
  refine wpAny_bind (gd_turn (s := { s with heap := h1, toks := tk1 }) (g := 2) X kk1 hD d1 (Nat.le_trans (stored_le (n := 0) (by simp)) (by decide)) rfl hp hpd h3 hl hk k1 n1 (by simp) (inR 2 b1 e1 rfl rfl) (fun h2 tk2 v2 hv2 d2 kk2 => ?_))
  dsimp only
  rw [List.forIn_cons]
  refine wpAny_bind (gd_turn (s := { s with heap := h2, toks := tk2 }) (g := 4) X kk2 hD d2 (Nat.le_trans (stored_le (n := 1) (stored_le (n := 0) (by simp))) (by decide)) rfl hp hpd h3 hl hk k2 n2 (by simp) (outR 4 rfl) (fun h3' tk3 v3 hv3 d3 kk3 => ?_))
  dsimp only
  rw [List.forIn_cons]
  refine wpAny_bind (gd_turn (s := { s with heap := h3', toks := tk3 }) (g := 5) X kk3 hD d3 (Nat.le_trans (stored_le (n := 2) (stored_le (n := 1) (stored_le (n := 0) (by simp)))) (by decide)) rfl hp hpd h3 hl hk k3 n3 (by simp) (outR 5 rfl) (fun h4 tk4 v4 hv4 d4 kk4 => ?_))
  dsimp only
  rw [List.forIn_nil]
  refine wpAny_pure (wpAny_pure ⟨_, rfl, ?_⟩)
  obtain ⟨t1, rfl⟩ := hv1
  obtain ⟨t2, rfl⟩ := hv2
  refine h h4 tk4 t1 t2 ?_ kk4
  rw [stored4, hv3, hv4] at d4
  exact d4
end
end
section
theorem off_N5 : True := by
  w_top off
  trivial
local macro_rules | `(tactic| walk_at "M none") => `(tactic| fail "none")
local macro_rules | `(tactic| walk_at "M none") => `(tactic| fail "none")
local macro_rules | `(tactic| walk_at "M none") => `(tactic| fail "none")
local macro_rules | `(tactic| walk_at "M none") => `(tactic| fail "none")
local macro_rules | `(tactic| walk_at "M none") => `(tactic| fail "none")
local macro_rules | `(tactic| walk_at "M none") => `(tactic| fail "none")
local macro_rules | `(tactic| walk_at "M none") => `(tactic| fail "none")
local macro_rules | `(tactic| walk_at "M none") => `(tactic| fail "none")
local macro_rules | `(tactic| walk_at "M none") => `(tactic| fail "none")
local macro_rules | `(tactic| walk_at "M none") => `(tactic| fail "none")
local macro_rules | `(tactic| walk_at "M none") => `(tactic| fail "none")
local macro_rules | `(tactic| walk_at "M none") => `(tactic| fail "none")
local macro_rules | `(tactic| walk_at "M none") => `(tactic| fail "none")
local macro_rules | `(tactic| walk_at "M none") => `(tactic| fail "none")
local macro_rules | `(tactic| walk_at "M none") => `(tactic| fail "none")
local macro_rules | `(tactic| walk_at "M none") => `(tactic| fail "none")
local macro_rules | `(tactic| walk_at "M none") => `(tactic| fail "none")
local macro_rules | `(tactic| walk_at "M none") => `(tactic| fail "none")
local macro_rules | `(tactic| walk_at "M none") => `(tactic| fail "none")
local macro_rules | `(tactic| walk_at "M none") => `(tactic| fail "none")
local macro_rules | `(tactic| walk_at "M none") => `(tactic| fail "none")
local macro_rules | `(tactic| walk_at "M none") => `(tactic| fail "none")
local macro_rules | `(tactic| walk_at "M none") => `(tactic| fail "none")
local macro_rules | `(tactic| walk_at "M none") => `(tactic| fail "none")
local macro_rules | `(tactic| walk_at "M none") => `(tactic| fail "none")
local macro_rules | `(tactic| walk_at "M none") => `(tactic| fail "none")
local macro_rules | `(tactic| walk_at "M none") => `(tactic| fail "none")
local macro_rules | `(tactic| walk_at "M none") => `(tactic| fail "none")
local macro_rules | `(tactic| walk_at "M none") => `(tactic| fail "none")
local macro_rules | `(tactic| walk_at "M none") => `(tactic| fail "none")
local macro_rules | `(tactic| walk_at "M none") => `(tactic| fail "none")
local macro_rules | `(tactic| walk_at "M none") => `(tactic| fail "none")
local macro_rules | `(tactic| walk_at "M none") => `(tactic| fail "none")
local macro_rules | `(tactic| walk_at "M none") => `(tactic| fail "none")
local macro_rules | `(tactic| walk_at "M none") => `(tactic| fail "none")
local macro_rules | `(tactic| walk_at "M none") => `(tactic| fail "none")
local macro_rules | `(tactic| walk_at "M none") => `(tactic| fail "none")
local macro_rules | `(tactic| walk_at "M none") => `(tactic| fail "none")
local macro_rules | `(tactic| walk_at "M none") => `(tactic| fail "none")
local macro_rules | `(tactic| walk_at "M none") => `(tactic| fail "none")
local macro_rules | `(tactic| walk_at "M none") => `(tactic| fail "none")
local macro_rules | `(tactic| walk_at "M none") => `(tactic| fail "none")
local macro_rules | `(tactic| walk_at "M none") => `(tactic| fail "none")
local macro_rules | `(tactic| walk_at "M none") => `(tactic| fail "none")
local macro_rules | `(tactic| walk_at "M none") => `(tactic| fail "none")
local macro_rules | `(tactic| walk_at "M none") => `(tactic| fail "none")
local macro_rules | `(tactic| walk_at "M none") => `(tactic| fail "none")
local macro_rules | `(tactic| walk_at "M none") => `(tactic| fail "none")
local macro_rules | `(tactic| walk_at "M none") => `(tactic| fail "none")
local macro_rules | `(tactic| walk_at "M none") => `(tactic| fail "none")
local macro_rules | `(tactic| walk_at "M none") => `(tactic| fail "none")
local macro_rules | `(tactic| walk_at "M none") => `(tactic| fail "none")
local macro_rules | `(tactic| walk_at "M none") => `(tactic| fail "none")
local macro_rules | `(tactic| walk_at "M none") => `(tactic| fail "none")
local macro_rules | `(tactic| walk_at "M none") => `(tactic| fail "none")
local macro_rules | `(tactic| walk_at "M none") => `(tactic| fail "none")
local macro_rules | `(tactic| walk_at "M none") => `(tactic| fail "none")
local macro_rules | `(tactic| walk_at "M none") => `(tactic| fail "none")
local macro_rules | `(tactic| walk_at "M none") => `(tactic| fail "none")
local macro_rules | `(tactic| walk_at "M none") => `(tactic| fail "none")
local macro_rules | `(tactic| k_all) => `(tactic| assumption)
local macro_rules | `(tactic| walk_at "M enter") => `(tactic| (refine wpAny_call ?_; k_dflt (refine' code_def ?k1 ?k2 ?k3 ?k4 ?k5 ?kA ?kF ?kK ?k6 ?k7 ?k8 ?k9 ?kB ?_ ?c2 ?c3 ?c4 ?c5; (case kA => first | assumption | exact rfl); (case kF => assumption); (case kK => assumption); (case k1 => k_asm); (case k2 => k_asm); (case k3 => k_asm); (case k4 => k_asm); (case k5 => k_asm); (case k6 => k_is); (case k7 => k_is); (case k8 => first | omega | (dsimp only; omega)); (case k9 => exact BindsTo.of_eq rfl); (case c5 => decide); (case kB => exact locs rfl); (case c2 => exact rfl); (case c3 => exact rfl); (case c4 => exact rfl); k_whole)))
local macro_rules | `(tactic| walk_at "M enterT") => `(tactic| (refine wpAny_call ?_; k_dflt (refine' code_defT ?k1 ?k2 ?k3 ?k4 ?k5 ?kA ?kF ?kK ?k6 ?k7 ?k8 ?k9 ?kB ?_ ?c2 ?c3 ?c4 ?c5; (case kA => first | assumption | exact rfl); (case kF => assumption); (case kK => assumption); (case k1 => k_asm); (case k2 => k_asm); (case k3 => k_asm); (case k4 => k_asm); (case k5 => k_asm); (case k6 => k_is); (case k7 => k_is); (case k8 => first | omega | (dsimp only; omega)); (case k9 => exact BindsTo.of_eq rfl); (case c5 => decide); (case kB => exact locs rfl); (case c2 => exact rfl); (case c3 => exact rfl); (case c4 => exact rfl); k_whole)))
local macro_rules | `(tactic| walk_at "M open") => `(tactic| (rename Around => A9; rename (Around.frames _ = _) => hA9; rename (Around.handled _ = _) => hh9; revert hA9 hh9; rename (Around.depth _ + _ < _) => hd9; revert hd9; rename (Around.units _ + _ < _) => hu9; revert hu9; cases A9; dsimp only; intro hu9 hd9 hA9 hh9; subst hA9; subst hh9))
local macro_rules | `(tactic| walk_at "M noloop") => `(tactic| ((fail_if_success (with_reducible show wpAny _ _ (exec (Stmt.While _ _ _ _) _) _ _ _)); (fail_if_success (with_reducible show wpAny _ _ (exec (Stmt.For _ _ _ _ _) _) _ _ _)); (fail_if_success (with_reducible show LCg.CompSrc _ _ _ _ _ _ _ _ _ _ _ _ _ _)); (fail_if_success (with_reducible show wpAny _ _ (eval (PySem.Expr.ListComp _ _ _ _) _) _ _ _)); (fail_if_success (with_reducible show wpAny _ _ _ (fun it s₂ => PairAt3 _ _ _ _ _ _ _ _ _ _ it s₂) _ _))))
local macro_rules | `(tactic| walk_at "M go") => `(tactic| repeat' (walk_at "M noloop"; first | (k_unfold; (try dsimp only)) | (k_end; kc_close) | walk1 | (dsimp only; walk1) | (leave1; walk_say "STEP leave1"; (try dsimp only)) | fail "no step"))
local macro_rules | `(tactic| walk_at "And") => `(tactic| ((with_reducible show PySem.Str.length (_ ++ _) ≤ sizeLine ∧ wpAny _ _ (joinParts _ _) _ _ _); refine fs_and (by (simp only [len_mk, show Str.length Str.empty = 0 from rfl] at *); omega) ?_; intro zF hzF))
local macro_rules | `(tactic| walk_at "joinParts") => `(tactic| (first | (with_reducible show wpAny _ _ (joinParts _ []) _ _ _) | (with_reducible refine joinParts_nilE ?_)); refine fs_nil (by (simp only [len_mk, show Str.length Str.empty = 0 from rfl] at *); omega) ?_)
local macro_rules | `(tactic| walk_at "M enterC") => `(tactic| (refine wpAny_call ?_; k_dflt (refine' code_defC ?k1 ?k2 ?k3 ?k4 ?k5 ?kA ?kF ?kK ?k6 ?k7 ?k8 ?k9 ?kB ?kD ?_ ?c2 ?c3 ?c4; (case kA => first | assumption | exact rfl); (case kF => assumption); (case kK => assumption); (case k1 => k_asm); (case k2 => k_asm); (case k3 => k_asm); (case k4 => k_asm); (case k5 => k_asm); (case k6 => k_is); (case k7 => k_is); (case k8 => first | omega | (dsimp only; omega)); (case k9 => exact BindsTo.of_eq rfl); (case kB => exact rfl); (case kD => decide +kernel); (case c2 => exact rfl); (case c3 => exact rfl); (case c4 => exact rfl); k_whole)))
local macro_rules | `(tactic| walk_at "M next") => `(tactic| (k_here; (with_reducible show wpAny _ _ (call (Value.ref 105) [Value.ref _, Value.int _ _]) _ _ _); k_dflt (refine' next_u ?B ?F ?X ?N ?T ?hA ?hf ?hke ?hh ?hd ?hu ?hst ?hos ?U ?hsc ?m0 ?m1 ?_; (case hA => exact rfl); (case hf => exact rfl); (case hke => exact rfl); (case hh => exact rfl); (case B => k_asm); (case F => k_asm); (case X => k_asm); (case N => k_asm); (case T => k_asm); (case hst => assumption); (case hos => assumption); (case U => k_updF); (case hsc => k_mem); (case hd => ktr_room); (case hu => ktr_units); (case m0 => omega); (case m1 => omega)); intro r9 t9 o9 h9 tk9 hr0 hr1 hst9 F9 N9; (try dsimp only at N9)))
theorem rev_K {prog : Program} {w : World} {A : Around} {E : Value → Shared → Prop} {s : Shared} {h₀ : Heap} {L : Addr} {m : Str → Option Value} {news : List (Addr × Obj)} {x : Str} {t : Tok} {Q : Value → Shared → Prop}
    (F : Fr h₀ L s.heap m) (N : News h₀ L s.heap news) (hx : x.length ≤ 100)
    (h : ∀ D h' tk, Fr h₀ L h' m → News h₀ L h' ((D, revS x t ((x.length : Int) - 1)) :: news) → (∀ p ∈ news, p.1 < D) → Q (.ref D) { s with heap := h', toks := tk }) :
    wpAny (model prog w) A (call (.type "reversed") [.str x t]) Q E s :=
  call_rev_str hx fun h' hD _ hk => h _ h' _ (F.keeps hk) (news_pushed F N hk hD rfl) fun p hp => Heap.lt_size (N p hp).1
theorem alpha_at (P : Params) : ∀ r, r < 26 → ∃ t, nsIn (Mine.hd.heap_39 P) 82 ⟨#[65 + r]⟩ = some (some (.int ((r + 1 : Nat) : Int) t)) := by
  intro r hr
  match r, hr with
  | 0, _ | 1, _ | 2, _ | 3, _ | 4, _ | 5, _ | 6, _ | 7, _ | 8, _ | 9, _ | 10, _ | 11, _ | 12, _ | 13, _ | 14, _ | 15, _ | 16, _ | 17, _ | 18, _ | 19, _ | 20, _ | 21, _ | 22, _ | 23, _ | 24, _ | 25, _ => exact ⟨_, rfl⟩
  | j + 26, h => exact absurd h (by omega)
theorem alpha_lk (P : Params) : ∃ es n, (Mine.hd.heap_39 P).lookup 82 = some ⟨.type "dict", none, .dict es n, #[]⟩ ∧ KeysLit P es.toList := by
  refine ⟨_, _, rfl, ?_⟩
  repeat' (first | exact trivial | (refine ⟨⟨_, _, rfl, rfl⟩, ?_⟩))
theorem alpha_get {prog : Program} {w : World} {A : Around} {E : Value → Shared → Prop} {s : Shared} {h₀ : Heap} {L : Addr} {m : Str → Option Value} {value slice : PySem.Expr} {c : Nat} {u : Tok} {Q : Value → Shared → Prop}
    (F : Fr h₀ L s.heap m) (X₀ : (Mine.hd.heap_39 w.params).In h₀) (h0 : 65 ≤ c) (h1 : c ≤ 90) (h : ∀ t, Q (.int ((c - 64 : Nat) : Int) t) { s with toks := s.toks + 1 })
    (hs : subscripted slice false (.ref 82) (.str ⟨#[c]⟩ u) = operate [.ref 82, .str ⟨#[c]⟩ u] (getItem (.ref 82) (.str ⟨#[c]⟩ u)) := by with_unfolding_all rfl) :
    wpAny (model prog w) A (subscriptTail value slice (.ref 82) (.str ⟨#[c]⟩ u)) Q E s := by
  obtain ⟨r, hr, rfl⟩ : ∃ r, r < 26 ∧ c = 65 + r := ⟨c - 65, by omega, by omega⟩
  obtain ⟨t, ht⟩ := alpha_at w.params r hr
  obtain ⟨es, n, hl, hk⟩ := alpha_lk w.params
  have := h t
  rw [show 65 + r - 64 = r + 1 by omega] at this
  exact topItem_K F X₀ hl hk ht this hs
local macro_rules | `(tactic| walk_at "call type:reversed") => `(tactic| (k_here; (with_reducible show wpAny _ _ (call (Value.type _) [Value.str _ _]) _ _ _); k_dflt (refine' rev_K ?k1 ?k2 ?k3 ?_; (case k1 => k_asm); (case k2 => k_asm); (case k3 => omega); k_whole); intro D9 h9 tk9 F9 N9 l9))
local macro_rules | `(tactic| walk_at "subscriptTail") => `(tactic| (k_here; (with_reducible show wpAny _ _ (subscriptTail _ _ (Value.ref 82) (Value.str _ _)) _ _ _); (with_unfolding_all refine' alpha_get ?k1 ?k2 ?k3 ?k4 ?_ ?k6; (case k1 => k_asm); (case k2 => k_asm); (case k3 => omega); (case k4 => omega); (case k6 => with_unfolding_all rfl); k_whole); intro _))
theorem pow_has (P : Params) : ∃ (lo : Obj) (n : Nat) (ys : Array Value), (Mine.hd.heap_39 P).lookup 84 = some lo ∧ lo.cls = .type "tuple" ∧ lo.data = .seq ys n ∧ ys.size = 3 ∧ ∀ i, i < 3 → ∃ t, ys.getD i .none = .int ((26 ^ i : Nat) : Int) t := by
  refine ⟨_, _, _, rfl, rfl, rfl, rfl, ?_⟩
  intro i hi
  match i, hi with
  | 0, _ | 1, _ | 2, _ => exact ⟨_, rfl⟩
  | j + 3, h => exact absurd h (by omega)
theorem numFold_aff : ∀ (l : List Nat) (a w : Nat), numFold a l = some w → ∃ u, w = a * 26 ^ l.length + u ∧ ∀ b, numFold b l = some (b * 26 ^ l.length + u)
  | [], a, w, h => ⟨0, by simp only [numFold] at h; cases h; simp, fun b => by simp [numFold]⟩
  | c :: r, a, w, h => by
    unfold numFold at h
    split at h
    · rename_i hc
      obtain ⟨u, h1, h2⟩ := numFold_aff r _ _ h
      refine ⟨(c - 64) * 26 ^ r.length + u, ?_, fun b => ?_⟩
      · rw [h1, List.length_cons, Nat.pow_succ, Nat.add_mul, Nat.mul_comm 26 a, Nat.mul_assoc, Nat.mul_comm 26, Nat.add_assoc]
      · rw [numFold, if_pos hc, h2, List.length_cons, Nat.pow_succ, Nat.add_mul, Nat.mul_comm 26 b, Nat.mul_assoc, Nat.mul_comm 26, Nat.add_assoc]
    · cases h
theorem numFold_drop : ∀ (k : Nat) (l : List Nat) (a w : Nat), numFold a l = some w → ∃ u, numFold 0 (l.drop k) = some u
  | 0, l, a, w, h => by obtain ⟨u, _, h2⟩ := numFold_aff l a w h; exact ⟨_, h2 0⟩
  | k + 1, [], a, w, h => ⟨0, rfl⟩
  | k + 1, c :: r, a, w, h => by
    unfold numFold at h
    split at h
    · exact numFold_drop k r _ _ h
    · cases h
theorem numFold_all : ∀ (l : List Nat) (a w : Nat), numFold a l = some w → ∀ c ∈ l, 65 ≤ c ∧ c ≤ 90
  | [], _, _, _ => fun _ h => nomatch h
  | c :: r, a, w, h => by
    unfold numFold at h
    split at h
    · rename_i hc
      intro d hd
      rcases List.mem_cons.mp hd with rfl | hd
      · exact hc
      · exact numFold_all r _ _ h d hd
    · cases h
def KeysAre : List DictEntry → List Nat → Prop
  | [], [] => True
  | e :: r, d :: ds => (∃ t, e.key = .str ⟨#[d]⟩ t) ∧ KeysAre r ds
  | _, _ => False
theorem KeysAre.find {c : Nat} : ∀ {l : List DictEntry} {ds : List Nat}, KeysAre l ds → (∀ d ∈ ds, d ≠ c) → l.find? (fun e => Value.isStrOf ⟨#[c]⟩ e.key) = none
  | [], [], _, _ => rfl
  | e :: r, d :: ds, ⟨⟨t, hk⟩, h⟩, hn => by
    have : Value.isStrOf ⟨#[c]⟩ e.key = false := by
      rw [hk]
      have := hn d (.head _)
      simp [Value.isStrOf, this]
    rw [List.find?_cons, this]
    exact KeysAre.find h fun d hd => hn d (.tail _ hd)
  | [], _ :: _, h, _ => h.elim
  | _ :: _, [], h, _ => h.elim
theorem alpha_no (P : Params) : ∃ es n, (Mine.hd.heap_39 P).lookup 82 = some ⟨.type "dict", none, .dict es n, #[]⟩ ∧ KeysLit P es.toList ∧ KeysAre es.toList [65, 66, 67, 68, 69, 70, 71, 72, 73, 74, 75, 76, 77, 78, 79, 80, 81, 82, 83, 84, 85, 86, 87, 88, 89, 90] := by
  refine ⟨_, _, rfl, ?_, ?_⟩
  · repeat' (first | exact trivial | (refine ⟨⟨_, _, rfl, rfl⟩, ?_⟩))
  · repeat' (first | exact trivial | (refine ⟨⟨_, rfl⟩, ?_⟩))
theorem alpha_miss {prog : Program} {w : World} {A : Around} {E : Value → Shared → Prop} {s : Shared} {h₀ : Heap} {L : Addr} {m : Str → Option Value} {value slice : PySem.Expr} {c : Nat} {u : Tok} {Q : Value → Shared → Prop}
    (F : Fr h₀ L s.heap m) (X₀ : (Mine.hd.heap_39 w.params).In h₀) (hh : A.handled = none) (hc : c < 65 ∨ 90 < c) (h : ∀ h' e, Heap.NewExc s.heap h' e "KeyError" → E (.ref e) { s with heap := h', toks := s.toks + 1 })
    (hs : subscripted slice false (.ref 82) (.str ⟨#[c]⟩ u) = operate [.ref 82, .str ⟨#[c]⟩ u] (getItem (.ref 82) (.str ⟨#[c]⟩ u)) := by with_unfolding_all rfl) :
    wpAny (model prog w) A (subscriptTail value slice (.ref 82) (.str ⟨#[c]⟩ u)) Q E s := by
  obtain ⟨es, n, hl, hk, hno⟩ := alpha_no w.params
  have hm := mapOf_K (prog := prog) (X₀.keeps F.keep) hl hk
  refine tail_any hm.typeIs slot_dict_getitem.lookup (wpAny_getItem_missing_of (strKind_is prog w ⟨#[c]⟩ u) rfl hh hm ?_ h) hs
  unfold findBy
  rw [← Array.find?_toList, KeysAre.find hno (fun d hd => by simp only [List.mem_cons, List.not_mem_nil, or_false] at hd; omega)]
  rfl
theorem numFold_rng : ∀ (l : List Nat) (v : Nat), l.length ≤ 3 → numFold 0 l = some v → v ≤ 18278 ∧ (0 < l.length → 0 < v) ∧ (l.length = 0 → v = 0)
  | [], v, _, h => by cases h; simp
  | [a], v, _, h => by
    unfold numFold at h; split at h
    · cases h; simp only [List.length_cons, List.length_nil]; omega
    · cases h
  | [a, b], v, _, h => by
    unfold numFold at h; split at h
    · unfold numFold at h; split at h
      · cases h; simp only [List.length_cons, List.length_nil]; omega
      · cases h
    · cases h
  | [a, b, c], v, _, h => by
    unfold numFold at h; split at h
    · unfold numFold at h; split at h
      · unfold numFold at h; split at h
        · cases h; simp only [List.length_cons, List.length_nil]; omega
        · cases h
      · cases h
    · cases h
  | a :: b :: c :: d :: r, v, hl, _ => absurd hl (by simp)
local macro_rules | `(tactic| walk_at "subscriptTail") => `(tactic| (k_here; (with_reducible show wpAny _ _ (subscriptTail _ _ (Value.ref 82) (Value.str _ _)) _ _ _); (with_unfolding_all refine' alpha_miss ?k1 ?k2 ?k3 ?k4 ?_ ?k6; (case k1 => k_asm); (case k2 => k_asm); (case k3 => rfl); (case k4 => omega); (case k6 => with_unfolding_all rfl); k_whole); intro h' e' x'))
local macro_rules | `(tactic| walk_at "leaving ref") => `(tactic| (k_here; (refine' leave_newS ?k1 ?k0 ?k2 ?k3 ?_; (case k0 => assumption); (case k2 => assumption); (case k1 => assumption); (case k3 => k_asm); k_whole; intro h' S' R' U'; (try dsimp only at S' R' U' ⊢))))
local macro_rules | `(tactic| walk_at "noteFrame ref") => `(tactic| (k_here; (with_reducible show wpAny _ _ (noteFrame _ _) (fun _ s₂ => wpAny _ _ (setFlight _ none) (fun _ s₃ => wpAny _ _ (handleBy _ _ (ExceptHandler.ExceptHandler (some (Expr.Name ("KeyError" : Str) _)) none _ _ :: _)) _ _ s₃) _ s₂) _ _); k_dflt (refine' caught_NX (T' := "KeyError") ?X ?F ?N ?K ?XB ?TB ?ex PyProof.Rows.Boot.«KeyError» ?hn kr_isExc_KeyError kr_notTuple_KeyError ?hs ?_; (case X => assumption); (case F => assumption); (case K => assumption); (case N => k_asm); (case XB => assumption); (case TB => assumption); (case ex => k_is); (case hn => decide); (case hs => (rw [isSubtype_type]; kernel_rfl)); k_whole); intro h6 g6 T6 F6 N6 B6 X6 P6 C6; (try k_sweep)))
theorem index_c {w : World} {p : Program} {loose : List Str} {mean : ExcName → Option Value} {mg mb : Str → Option Value}
    {A A₀ : Around} {env : Env} {outer : List Env} {base h₀ : Heap} {L : Addr} {m : Str → Option Value} {news : List (Addr × Obj)} {s : Shared}
    {Q E : Value → Shared → Prop} {x ux : List Nat} {t : Tok}
    (B : Below A₀ base outer h₀) (F : Fr h₀ L s.heap m) (X : (Mine.hd.heap_39 w.params).In h₀)
    (N : News h₀ L s.heap news) (T : Top p loose mean mg mb h₀) (XB : (Mine.hd.heap_39 w.params).In base) (TB : Top p loose mean mg mb base)
    (hA : A.frames = some (env :: outer)) (hf : env.frame = some L) (hke : env.scope.kind = .function) (hh : A.handled = none)
    (hd : A.depth + 10 < recursionLimit) (hu : A.units + 80 < cLine) (hx : x.length ≤ 4) (hux : Txt.upper ⟨x.toArray⟩ = ⟨ux.toArray⟩) (hul : ux.length = x.length)
    (hret : ∀ v, numV ux x.length = some v → ∀ t h' tk', Fr h₀ L h' m → News h₀ L h' news → Q (.int v t) { s with heap := h', toks := tk' })
    (hraise : numV ux x.length = none → ∀ G e h' tk', Fr h₀ L G m → RaisedSN base G (env :: outer) e (.type "ValueError") news h' → G.UpToSlots h' → E (.ref e) { s with heap := h', toks := tk' }) :
    wpAny (model PySem.Challenge.rw_ez0207_01.row.prog w) A (call (.ref 91) [.str ⟨x.toArray⟩ t]) Q E s := by
  have hxl : Str.length ⟨x.toArray⟩ ≤ 4 := by rw [len_mk]; exact hx
  have hul2 : (Txt.upper ⟨x.toArray⟩).length ≤ 4 := by rw [hux, len_mk, hul]; exact hx
  obtain ⟨hnd, dp, frs, gds, un⟩ := A
  dsimp only at hA hh hd hu
  subst hA hh
  have hlit1 : Str.length (Str.ofString "'") = 1 := by decide +kernel
  have hlit2 : Str.length (Str.ofString "' is not a valid column name. Column names are from A to ZZZ") = 60 := by decide +kernel
  walk_at "M enter"
  intro g' L' h' FG' F' N' B' X' T'
  dsimp only
  clear hf hke B F X T N
  replace F' : Fr g' L' h' (fun y => List.lookup y [(Str.ofString "col", .str ⟨x.toArray⟩ t)]) := F'
  walk_at "M go"
  · rename_i S9 R9 U9
    exact hraise (by rw [len_mk] at *; unfold numV; split <;> first | rfl | (rw [if_neg (by omega)])) _ _ _ _ FG' S9 U9
  rename_i D9 _ _ hD hz Fz Nz
  obtain ⟨U, zmsg, te, ti, F2⟩ : ∃ U zmsg te ti, Fr g' L' hz (hol [Str.ofString "letter", Str.ofString "power", Str.ofString "pos"] U [(Str.ofString "col", .ref D9), (Str.ofString "error_msg", .str zmsg te), (Str.ofString "idx", .int 0 ti)]) := ⟨_, _, _, _, Fr.hol Fz (holP (holP (holP (hol0 fun _ => rfl))))⟩
  clear Fz
  refine For_turns F2 ?_
  walk_at "M go"
  obtain ⟨lo, np, ys, hl, hlc, hld, hys, hpw⟩ := pow_has w.params
  rw [hux] at Nz
  have hx3 : x.length ≤ 3 := by rw [len_mk] at *; omega
  have hulen : Str.length ⟨ux.toArray⟩ ≤ 3 := by rw [len_mk, hul]; exact hx3
  refine iter_zr rfl F2 Nz (fun p hp => Nat.ne_of_lt (hD p hp)) (X' _ _ hl) hlc hld (by omega) (by omega) ?_
  intro I hI hDI
  clear F2 Nz
  refine items_ind (fun i m nw => nw = news ∧ ∃ U idx t, m = hol [Str.ofString "letter", Str.ofString "power", Str.ofString "pos"] U [(Str.ofString "col", .ref D9), (Str.ofString "error_msg", .str zmsg te), (Str.ofString "idx", .int (idx : Nat) t)] ∧ numFold 0 (ux.drop (ux.length - i)) = some idx) ⟨rfl, U, 0, ti, rfl, by simp [numFold]⟩ ?_ ?_
  · rintro i a m nw hia ⟨rfl, U, idx, t1, rfl, hidx⟩ v h tk hav F1
    have hi : i < ux.length := by
      have := (List.getElem?_eq_some_iff.mp hia).1
      simpa [zrItems, len_mk] using this
    have ha : a = Itm.pair (fun t => .str ⟨#[(⟨ux.toArray⟩ : Str).cps.getD ((⟨ux.toArray⟩ : Str).length - 1 - i) 0]⟩ t) (ys.getD i .none) := by
      rw [zrItems, List.getElem?_map, List.getElem?_range (by rw [len_mk]; exact hi)] at hia
      exact (Option.some.inj hia).symm
    subst ha
    obtain ⟨T, t2, rfl, hT⟩ := hav
    obtain ⟨tp, hp⟩ := hpw i (by rw [len_mk] at hulen; omega)
    rw [hp] at hT
    refine AllObj.cons fun o1 ho1 => AllObj.cons fun o2 ho2 => AllObj.cons fun o3 ho3 => AllObj.cons fun o4 ho4 => AllObj.cons fun o5 ho5 => AllObj.nil fun N1 => ?_
    obtain ⟨c, hc, hcu⟩ : ∃ c, (⟨ux.toArray⟩ : Str).cps.getD ((⟨ux.toArray⟩ : Str).length - 1 - i) 0 = c ∧ ux[ux.length - 1 - i]? = some c := by
      have hlt : ux.length - 1 - i < ux.length := by omega
      refine ⟨ux[ux.length - 1 - i], ?_, List.getElem?_eq_getElem hlt⟩
      rw [len_mk, Array.getD_eq_getD_getElem?]
      simp [hlt]
    rw [hc] at hT
    by_cases hcr : 65 ≤ c ∧ c ≤ 90
    rotate_left
    · have hno : numV ux x.length = none := by
        unfold numV
        cases e : numFold 0 ux with
        | none => rfl
        | some v0 => exact absurd (numFold_all _ _ _ e c (List.mem_of_getElem? hcu)) hcr
      have hcr2 : c < 65 ∨ 90 < c := by omega
      walk_at "M go"
      rename (KtsTurn _ g' _) => T6
      rename (Fr _ L' _ fun y => if y = Str.ofString "power" then _ else _) => F6
      rename (News _ L' _ (_ ++ nw)) => N6
      rename (Below _ base (env :: outer) _) => B6
      rename (Exists _) => C6
      refine Raise_in rfl ?_
      iterate 6 walk1
      refine PyProof.Rows.call_exc PyProof.Rows.excClass_ValueError ?_ (by show 1 ≤ sizeLine; rw [sizeLine_eq]; omega)
      intro hC eC xC
      obtain ⟨o0, vs0, c0, c1, c2⟩ := C6
      obtain ⟨oC, tC, dC, cC, fC⟩ := xC.there
      refine ⟨eC, oC, tC, o0, vs0, rfl, ⟨dC, cC, fC⟩, ?nC, xC.keeps _ _ c0, c1, c2, ?_⟩
      case nC =>
        intro q
        have := xC.new
        rw [← q, c0] at this
        cases this
      refine leave_chain (ob := Obj.mapFields (·.setIfInBounds 2 (.ref _)) oC) (news := nw) B6 (fun b o hb => ?kk) xC.new (Heap.get?_update_self _ dC (Obj.isFreed_of_fields (Obj.data_mapFields fC _))) ((Obj.cls_mapFields _ _).trans cC) ((Obj.data_mapFields fC _).trans rfl) F6 (fun p hp => N6 p (List.mem_append_right _ hp)) fun h' R U => ?_
      case kk =>
        refine (Heap.get?_update_ne _ _ _ _ (fun q => ?_)).trans (xC.keeps b o hb)
        rw [q, xC.new] at hb
        cases hb
      exact hraise hno _ _ _ _ FG' (RaisedSN.turn R T6) ((KtsTurn.upTo T6).trans U)
    walk_at "M go"
    rename (Fr g' L' _ fun y => if y = Str.ofString "idx" then _ else _) => Fz
    rename (News g' L' _ _) => Nz
    obtain ⟨U2, t9, Fy⟩ : ∃ U2 t9, Fr g' L' _ (hol [Str.ofString "letter", Str.ofString "power", Str.ofString "pos"] U2 [(Str.ofString "col", .ref D9), (Str.ofString "error_msg", .str zmsg te), (Str.ofString "idx", .int ((idx : Int) + ((c - 64 : Nat) : Int) * ((26 ^ i : Nat) : Int)) t9)]) :=
      ⟨_, _, Fr.hol Fz (holP (holS rfl (holS rfl (holS rfl holB))))⟩
    refine ⟨_, _, _, nw, rfl, Fy, Nz, ?_, trivial, rfl, U2, idx + (c - 64) * 26 ^ i, t9, ?_, ?_⟩
    · intro p hp q hq
      have h1 := hI p hp
      have h2 := hD p hp
      have hq' : q.1 = I + 3 ∨ q.1 = I + 1 ∨ q.1 = I + 2 ∨ q.1 = D9 ∨ q.1 = I := by
        simp only [List.mem_cons, List.not_mem_nil, or_false] at hq
        rcases hq with rfl | rfl | rfl | rfl | rfl <;> simp
      rcases hq' with e | e | e | e | e <;> rw [e]
      all_goals first | exact Nat.ne_of_lt h2 | exact Nat.ne_of_lt h1 | exact Nat.ne_of_lt (Nat.lt_add_right _ h1)
    · push_cast
      rfl
    · have hd : ux.drop (ux.length - (i + 1)) = c :: ux.drop (ux.length - i) := by
        rw [List.drop_eq_getElem_cons (by omega : ux.length - (i + 1) < ux.length)]
        rw [show ux.length - (i + 1) + 1 = ux.length - i by omega]
        congr 1
        have : ux[ux.length - 1 - i]? = ux[ux.length - (i + 1)]? := by congr 1; omega
        rw [this, List.getElem?_eq_getElem (by omega)] at hcu
        exact Option.some.inj hcu
      obtain ⟨u, h1, h2⟩ := numFold_aff _ _ _ hidx
      rw [hd, numFold, if_pos hcr, h2]
      congr 1
      simp only [List.length_drop] at h1 ⊢
      rw [show ux.length - (ux.length - i) = i by omega, h1]
      simp only [Nat.mul_zero, Nat.zero_add, Nat.zero_mul]
      omega
  · rintro m nw ⟨rfl, U, idx, t1, rfl, hidx⟩ h tk F1 N1
    rw [show (zrItems ⟨ux.toArray⟩ ys).length = ux.length by simp [zrItems, len_mk], Nat.sub_self, List.drop_zero] at hidx
    have hrg := numFold_rng ux idx (by omega) hidx
    walk_at "M go"
    · refine leaveK_ F1 N1 ?_
      intro F9 N9
      refine hret _ ?_ _ _ _ F9 N9
      unfold numV
      simp only [hidx]
      rw [if_pos (by omega)]
    · rename_i S9 R9 U9
      refine hraise ?_ _ _ _ _ FG' S9 U9
      unfold numV
      simp only [hidx]
      rw [if_neg (by omega)]
theorem index_v {w : World} {p : Program} {loose : List Str} {mean : ExcName → Option Value} {mg mb : Str → Option Value}
    {A A₀ : Around} {env : Env} {outer : List Env} {base h₀ : Heap} {L : Addr} {m : Str → Option Value} {news : List (Addr × Obj)} {s : Shared}
    {Q E : Value → Shared → Prop} {x ux : List Nat} {t : Tok} {v : Int}
    (B : Below A₀ base outer h₀) (F : Fr h₀ L s.heap m) (X : (Mine.hd.heap_39 w.params).In h₀)
    (N : News h₀ L s.heap news) (T : Top p loose mean mg mb h₀) (XB : (Mine.hd.heap_39 w.params).In base) (TB : Top p loose mean mg mb base)
    (hA : A.frames = some (env :: outer)) (hf : env.frame = some L) (hke : env.scope.kind = .function) (hh : A.handled = none)
    (hd : A.depth + 10 < recursionLimit) (hu : A.units + 80 < cLine) (hx : x.length ≤ 4) (hux : Txt.upper ⟨x.toArray⟩ = ⟨ux.toArray⟩) (hul : ux.length = x.length)
    (hv : numV ux x.length = some v) (hret : ∀ t h' tk', Fr h₀ L h' m → News h₀ L h' news → Q (.int v t) { s with heap := h', toks := tk' }) :
    wpAny (model PySem.Challenge.rw_ez0207_01.row.prog w) A (call (.ref 91) [.str ⟨x.toArray⟩ t]) Q E s :=
  index_c B F X N T XB TB hA hf hke hh hd hu hx hux hul (fun v' hv' => by obtain rfl := Option.some.inj (hv.symm.trans hv'); exact hret) (fun hn => by rw [hv] at hn; cases hn)
end
section
theorem off_X1 : True := by
  w_top off
  trivial
local macro_rules | `(tactic| walk_at "M none") => `(tactic| fail "none")
local macro_rules | `(tactic| walk_at "M none") => `(tactic| fail "none")
local macro_rules | `(tactic| walk_at "M none") => `(tactic| fail "none")
local macro_rules | `(tactic| walk_at "M none") => `(tactic| fail "none")
local macro_rules | `(tactic| walk_at "M none") => `(tactic| fail "none")
local macro_rules | `(tactic| walk_at "M none") => `(tactic| fail "none")
local macro_rules | `(tactic| walk_at "M none") => `(tactic| fail "none")
local macro_rules | `(tactic| walk_at "M none") => `(tactic| fail "none")
local macro_rules | `(tactic| walk_at "M none") => `(tactic| fail "none")
local macro_rules | `(tactic| walk_at "M none") => `(tactic| fail "none")
local macro_rules | `(tactic| walk_at "M none") => `(tactic| fail "none")
local macro_rules | `(tactic| walk_at "M none") => `(tactic| fail "none")
local macro_rules | `(tactic| walk_at "M none") => `(tactic| fail "none")
local macro_rules | `(tactic| walk_at "M none") => `(tactic| fail "none")
local macro_rules | `(tactic| walk_at "M none") => `(tactic| fail "none")
local macro_rules | `(tactic| walk_at "M none") => `(tactic| fail "none")
local macro_rules | `(tactic| walk_at "M none") => `(tactic| fail "none")
local macro_rules | `(tactic| walk_at "M none") => `(tactic| fail "none")
local macro_rules | `(tactic| walk_at "M none") => `(tactic| fail "none")
local macro_rules | `(tactic| walk_at "M none") => `(tactic| fail "none")
local macro_rules | `(tactic| walk_at "M none") => `(tactic| fail "none")
local macro_rules | `(tactic| walk_at "M none") => `(tactic| fail "none")
local macro_rules | `(tactic| walk_at "M none") => `(tactic| fail "none")
local macro_rules | `(tactic| walk_at "M none") => `(tactic| fail "none")
local macro_rules | `(tactic| walk_at "M none") => `(tactic| fail "none")
local macro_rules | `(tactic| walk_at "M none") => `(tactic| fail "none")
local macro_rules | `(tactic| walk_at "M none") => `(tactic| fail "none")
local macro_rules | `(tactic| walk_at "M none") => `(tactic| fail "none")
local macro_rules | `(tactic| walk_at "M none") => `(tactic| fail "none")
local macro_rules | `(tactic| walk_at "M none") => `(tactic| fail "none")
local macro_rules | `(tactic| walk_at "M none") => `(tactic| fail "none")
local macro_rules | `(tactic| walk_at "M none") => `(tactic| fail "none")
local macro_rules | `(tactic| walk_at "M none") => `(tactic| fail "none")
local macro_rules | `(tactic| walk_at "M none") => `(tactic| fail "none")
local macro_rules | `(tactic| walk_at "M none") => `(tactic| fail "none")
local macro_rules | `(tactic| walk_at "M none") => `(tactic| fail "none")
local macro_rules | `(tactic| walk_at "M none") => `(tactic| fail "none")
local macro_rules | `(tactic| walk_at "M none") => `(tactic| fail "none")
local macro_rules | `(tactic| walk_at "M none") => `(tactic| fail "none")
local macro_rules | `(tactic| walk_at "M none") => `(tactic| fail "none")
local macro_rules | `(tactic| walk_at "M none") => `(tactic| fail "none")
local macro_rules | `(tactic| walk_at "M none") => `(tactic| fail "none")
local macro_rules | `(tactic| walk_at "M none") => `(tactic| fail "none")
local macro_rules | `(tactic| walk_at "M none") => `(tactic| fail "none")
local macro_rules | `(tactic| walk_at "M none") => `(tactic| fail "none")
local macro_rules | `(tactic| walk_at "M none") => `(tactic| fail "none")
local macro_rules | `(tactic| walk_at "M none") => `(tactic| fail "none")
local macro_rules | `(tactic| walk_at "M none") => `(tactic| fail "none")
local macro_rules | `(tactic| walk_at "M none") => `(tactic| fail "none")
local macro_rules | `(tactic| walk_at "M none") => `(tactic| fail "none")
local macro_rules | `(tactic| walk_at "M none") => `(tactic| fail "none")
local macro_rules | `(tactic| walk_at "M none") => `(tactic| fail "none")
local macro_rules | `(tactic| walk_at "M none") => `(tactic| fail "none")
local macro_rules | `(tactic| walk_at "M none") => `(tactic| fail "none")
local macro_rules | `(tactic| walk_at "M none") => `(tactic| fail "none")
local macro_rules | `(tactic| walk_at "M none") => `(tactic| fail "none")
local macro_rules | `(tactic| walk_at "M none") => `(tactic| fail "none")
local macro_rules | `(tactic| walk_at "M none") => `(tactic| fail "none")
local macro_rules | `(tactic| walk_at "M none") => `(tactic| fail "none")
local macro_rules | `(tactic| walk_at "M none") => `(tactic| fail "none")
local macro_rules | `(tactic| walk_at "M none") => `(tactic| fail "none")
local macro_rules | `(tactic| walk_at "M none") => `(tactic| fail "none")
local macro_rules | `(tactic| walk_at "M none") => `(tactic| fail "none")
local macro_rules | `(tactic| walk_at "M none") => `(tactic| fail "none")
local macro_rules | `(tactic| walk_at "M none") => `(tactic| fail "none")
local macro_rules | `(tactic| walk_at "M none") => `(tactic| fail "none")
local macro_rules | `(tactic| walk_at "M none") => `(tactic| fail "none")
local macro_rules | `(tactic| walk_at "M none") => `(tactic| fail "none")
local macro_rules | `(tactic| walk_at "M none") => `(tactic| fail "none")
local macro_rules | `(tactic| walk_at "M none") => `(tactic| fail "none")
local macro_rules | `(tactic| walk_at "M none") => `(tactic| fail "none")
local macro_rules | `(tactic| walk_at "M none") => `(tactic| fail "none")
local macro_rules | `(tactic| walk_at "M none") => `(tactic| fail "none")
local macro_rules | `(tactic| walk_at "M none") => `(tactic| fail "none")
local macro_rules | `(tactic| walk_at "M none") => `(tactic| fail "none")
local macro_rules | `(tactic| walk_at "M none") => `(tactic| fail "none")
local macro_rules | `(tactic| walk_at "M none") => `(tactic| fail "none")
local macro_rules | `(tactic| walk_at "M none") => `(tactic| fail "none")
local macro_rules | `(tactic| walk_at "M none") => `(tactic| fail "none")
local macro_rules | `(tactic| walk_at "M none") => `(tactic| fail "none")
local macro_rules | `(tactic| walk_at "M none") => `(tactic| fail "none")
local macro_rules | `(tactic| walk_at "M none") => `(tactic| fail "none")
local macro_rules | `(tactic| walk_at "M none") => `(tactic| fail "none")
local macro_rules | `(tactic| walk_at "M none") => `(tactic| fail "none")
local macro_rules | `(tactic| walk_at "M none") => `(tactic| fail "none")
local macro_rules | `(tactic| walk_at "M none") => `(tactic| fail "none")
local macro_rules | `(tactic| walk_at "M none") => `(tactic| fail "none")
local macro_rules | `(tactic| walk_at "M none") => `(tactic| fail "none")
local macro_rules | `(tactic| walk_at "M none") => `(tactic| fail "none")
local macro_rules | `(tactic| walk_at "M none") => `(tactic| fail "none")
local macro_rules | `(tactic| k_all) => `(tactic| assumption)
local macro_rules | `(tactic| walk_at "M enter") => `(tactic| (refine wpAny_call ?_; k_dflt (refine' code_def ?k1 ?k2 ?k3 ?k4 ?k5 ?kA ?kF ?kK ?k6 ?k7 ?k8 ?k9 ?kB ?_ ?c2 ?c3 ?c4 ?c5; (case kA => first | assumption | exact rfl); (case kF => assumption); (case kK => assumption); (case k1 => k_asm); (case k2 => k_asm); (case k3 => k_asm); (case k4 => k_asm); (case k5 => k_asm); (case k6 => k_is); (case k7 => k_is); (case k8 => first | omega | (dsimp only; omega)); (case k9 => exact BindsTo.of_eq rfl); (case c5 => decide); (case kB => exact locs rfl); (case c2 => exact rfl); (case c3 => exact rfl); (case c4 => exact rfl); k_whole)))
local macro_rules | `(tactic| walk_at "M enterT") => `(tactic| (refine wpAny_call ?_; k_dflt (refine' code_defT ?k1 ?k2 ?k3 ?k4 ?k5 ?kA ?kF ?kK ?k6 ?k7 ?k8 ?k9 ?kB ?_ ?c2 ?c3 ?c4 ?c5; (case kA => first | assumption | exact rfl); (case kF => assumption); (case kK => assumption); (case k1 => k_asm); (case k2 => k_asm); (case k3 => k_asm); (case k4 => k_asm); (case k5 => k_asm); (case k6 => k_is); (case k7 => k_is); (case k8 => first | omega | (dsimp only; omega)); (case k9 => exact BindsTo.of_eq rfl); (case c5 => decide); (case kB => exact locs rfl); (case c2 => exact rfl); (case c3 => exact rfl); (case c4 => exact rfl); k_whole)))
local macro_rules | `(tactic| walk_at "M open") => `(tactic| (rename Around => A9; rename (Around.frames _ = _) => hA9; rename (Around.handled _ = _) => hh9; revert hA9 hh9; rename (Around.depth _ + _ < _) => hd9; revert hd9; rename (Around.units _ + _ < _) => hu9; revert hu9; cases A9; dsimp only; intro hu9 hd9 hA9 hh9; subst hA9; subst hh9))
local macro_rules | `(tactic| walk_at "M noloop") => `(tactic| ((fail_if_success (with_reducible show wpAny _ _ (exec (Stmt.While _ _ _ _) _) _ _ _)); (fail_if_success (with_reducible show wpAny _ _ (exec (Stmt.For _ _ _ _ _) _) _ _ _)); (fail_if_success (with_reducible show LCg.CompSrc _ _ _ _ _ _ _ _ _ _ _ _ _ _)); (fail_if_success (with_reducible show wpAny _ _ (eval (PySem.Expr.ListComp _ _ _ _) _) _ _ _)); (fail_if_success (with_reducible show wpAny _ _ _ (fun it s₂ => PairAt3 _ _ _ _ _ _ _ _ _ _ it s₂) _ _))))
local macro_rules | `(tactic| walk_at "M go") => `(tactic| repeat' (walk_at "M noloop"; first | (k_unfold; (try dsimp only)) | (k_end; kc_close) | walk1 | (dsimp only; walk1) | (leave1; walk_say "STEP leave1"; (try dsimp only)) | fail "no step"))
local macro_rules | `(tactic| walk_at "And") => `(tactic| ((with_reducible show PySem.Str.length (_ ++ _) ≤ sizeLine ∧ wpAny _ _ (joinParts _ _) _ _ _); refine fs_and (by (simp only [len_mk, show Str.length Str.empty = 0 from rfl] at *); omega) ?_; intro zF hzF))
local macro_rules | `(tactic| walk_at "joinParts") => `(tactic| (first | (with_reducible show wpAny _ _ (joinParts _ []) _ _ _) | (with_reducible refine joinParts_nilE ?_)); refine fs_nil (by (simp only [len_mk, show Str.length Str.empty = 0 from rfl] at *); omega) ?_)
local macro_rules | `(tactic| walk_at "M enterC") => `(tactic| (refine wpAny_call ?_; k_dflt (refine' code_defC ?k1 ?k2 ?k3 ?k4 ?k5 ?kA ?kF ?kK ?k6 ?k7 ?k8 ?k9 ?kB ?kD ?_ ?c2 ?c3 ?c4; (case kA => first | assumption | exact rfl); (case kF => assumption); (case kK => assumption); (case k1 => k_asm); (case k2 => k_asm); (case k3 => k_asm); (case k4 => k_asm); (case k5 => k_asm); (case k6 => k_is); (case k7 => k_is); (case k8 => first | omega | (dsimp only; omega)); (case k9 => exact BindsTo.of_eq rfl); (case kB => exact rfl); (case kD => decide +kernel); (case c2 => exact rfl); (case c3 => exact rfl); (case c4 => exact rfl); k_whole)))
local macro_rules | `(tactic| walk_at "M next") => `(tactic| (k_here; (with_reducible show wpAny _ _ (call (Value.ref 105) [Value.ref _, Value.int _ _]) _ _ _); k_dflt (refine' next_u ?B ?F ?X ?N ?T ?hA ?hf ?hke ?hh ?hd ?hu ?hst ?hos ?U ?hsc ?m0 ?m1 ?_; (case hA => exact rfl); (case hf => exact rfl); (case hke => exact rfl); (case hh => exact rfl); (case B => k_asm); (case F => k_asm); (case X => k_asm); (case N => k_asm); (case T => k_asm); (case hst => assumption); (case hos => assumption); (case U => k_updF); (case hsc => k_mem); (case hd => ktr_room); (case hu => ktr_units); (case m0 => omega); (case m1 => omega)); intro r9 t9 o9 h9 tk9 hr0 hr1 hst9 F9 N9; (try dsimp only at N9)))
section
variable {prog : Program} {w : World} {A₀ A : Around} {s : Shared} {base h₀ : Heap} {L : Addr} {m : Str → Option Value} {env : Env} {news : List (Addr × Obj)} {K : Frag} {p : Program} {loose : List Str} {mean : ExcName → Option Value} {mg mb : Str → Option Value}
  {R : Result → Shared → Prop} {name qual : Str} {params : Arguments} {body : List Stmt} {scope : Scope} {dV kV doc pm cdv ct oc : Value} {an od : Option Addr} {osl : Array (Option Value)} {f : Addr} {args : Args} {binds : List (Str × Value)}
/-- a def with a try, called from the law itself -/
theorem code_defT (B : Below A₀ base [] h₀) (F : Fr h₀ L s.heap m) (X₀ : K.In h₀) (N : News h₀ L s.heap news) (T : Top p loose mean mg mb h₀) (hA : A.frames = some [env]) (hf : env.frame = some L) (hke : env.scope.kind = .function)
    (ho : K.lookup f = some ⟨oc, od, .func (fnOf name qual params body scope dV kV doc pm an cdv ct), osl⟩) (hcd : codeIn K cdv qual = true) (hroom : A.depth < recursionLimit)
    (hbind : BindsTo s (fnOf name qual params body scope dV kV doc pm an cdv ct) args binds) (hloc : ∀ y ∈ binds, scope.names.lookup y.1 = some .local)
    (h : ∀ g L' h₁, Fr h₀ L g m → Fr g L' h₁ (fun y => binds.reverse.lookup y) → News g L' h₁ news → Below A base [env] g → K.In g → Top p loose mean mg mb g → KtsDicts ([env].filterMap (·.frame)) g →
      wpAny (model prog w) (A.deeper (envOf qual scope L' f cdv)) (execs body (envOf qual scope L' f cdv))
        (fun fl s' => LeaveS0 ([env].filterMap (·.frame)) h₀ L m g R (match fl with | .ret v => v | _ => .none) s')
        (fun e s' => wpAny (model prog w) (A.deeper (envOf qual scope L' f cdv)) (leaving (envOf qual scope L' f cdv) e) (fun _ s'' => R (.error e) s'') (fun e' s'' => R (.error e') s'') s')
        { s with heap := h₁, toks := s.toks + binds.length })
    (hco : scope.isCoroutine = false) (hgen : scope.isGenerator = false) (hk : scope.kind = .function)
    (hcell : ∀ x ∈ scope.names, x.2 ≠ .cell) : codeAny (model prog w) A (.call (.ref f) args) R s := by
  obtain ⟨FG, BG, st, _⟩ := groundX (R := R) B F N hA hf hke
  have X := X₀.keeps F.keep
  have fr : [env].filterMap (·.frame) = [L] := by simp [hf]
  refine codeAny_call_def (fd := fnOf name qual params body scope dV kV doc pm an cdv ct) (body := body) (binds := binds) hroom (X _ _ ho) rfl (T.nolimit.keeps F.keep) (codeRec_of X hcd) rfl hbind hcell hloc (fun h₁ hns hk₁ => ?_) hco hgen hk
  refine wpAny_mono (h _ s.heap.objs.size h₁ FG ⟨hns, fun b o e => hk₁ b o (of_hideAll _ e), Nat.le_of_eq (hideAll_size _ _)⟩
    (fun p hp => ⟨hk₁ _ _ (N p hp).1, Nat.ne_of_lt (Heap.lt_size (N p hp).1), hideAll_none _ (List.mem_map_of_mem hp)⟩) BG (X₀.keeps st) (T.keeps st) (fun b hb => ?_)) (fun fl s' hl => ?_) fun _ _ y => y
  · rw [fr] at hb
    obtain rfl := List.mem_singleton.mp hb
    obtain ⟨oL, es, ep, hL, hd, _⟩ := FG.ns
    exact ⟨oL, es, ep, hL, hd⟩
  · obtain ⟨g', L', m', news', T', F', N', k⟩ := hl
    have nL : h₀.get? L = none := kts_self F
    obtain ⟨oL, es, ep, hL, hd, _⟩ := FG.ns
    obtain ⟨sl, hs⟩ := T'.up hL
    refine k ⟨(Heap.UpToSlots.of_keeps F'.keep).ns (Heap.UpToSlots.ns (fun b o e _ => T'.up e) FG.ns), fun b o e => F'.keep b o (T'.other b o (st b o e) (fun q => ?_)), F.above⟩ fun p hp => ⟨(N' p hp).1, fun q => ?_, ?_⟩
    · rw [fr] at q
      rw [List.mem_singleton.mp q, nL] at e
      cases e
    · have := (N' p hp).2.2
      rw [q, hs] at this
      cases this
    · cases q : h₀.get? p.1 with
      | none => rfl
      | some o =>
        obtain ⟨sl', hs'⟩ := T'.up (st _ _ q)
        have := (N' p hp).2.2
        rw [hs'] at this
        cases this
end
end
section
theorem off_P2 : True := by
  w_top off
  trivial
local macro_rules | `(tactic| k_all) => `(tactic| assumption)
local macro_rules | `(tactic| walk_at "M enter") => `(tactic| (refine wpAny_call ?_; k_dflt (refine' code_def ?k1 ?k2 ?k3 ?k4 ?k5 ?kA ?kF ?kK ?k6 ?k7 ?k8 ?k9 ?kB ?_ ?c2 ?c3 ?c4 ?c5; (case kA => first | assumption | exact rfl); (case kF => assumption); (case kK => assumption); (case k1 => k_asm); (case k2 => k_asm); (case k3 => k_asm); (case k4 => k_asm); (case k5 => k_asm); (case k6 => k_is); (case k7 => k_is); (case k8 => first | omega | (dsimp only; omega)); (case k9 => exact BindsTo.of_eq rfl); (case c5 => decide); (case kB => exact locs rfl); (case c2 => exact rfl); (case c3 => exact rfl); (case c4 => exact rfl); k_whole)))
local macro_rules | `(tactic| walk_at "M enterT") => `(tactic| (refine wpAny_call ?_; k_dflt (refine' code_defT ?k1 ?k2 ?k3 ?k4 ?k5 ?kA ?kF ?kK ?k6 ?k7 ?k8 ?k9 ?kB ?_ ?c2 ?c3 ?c4 ?c5; (case kA => first | assumption | exact rfl); (case kF => assumption); (case kK => assumption); (case k1 => k_asm); (case k2 => k_asm); (case k3 => k_asm); (case k4 => k_asm); (case k5 => k_asm); (case k6 => k_is); (case k7 => k_is); (case k8 => first | omega | (dsimp only; omega)); (case k9 => exact BindsTo.of_eq rfl); (case c5 => decide); (case kB => exact locs rfl); (case c2 => exact rfl); (case c3 => exact rfl); (case c4 => exact rfl); k_whole)))
local macro_rules | `(tactic| walk_at "M open") => `(tactic| (rename Around => A9; rename (Around.frames _ = _) => hA9; rename (Around.handled _ = _) => hh9; revert hA9 hh9; rename (Around.depth _ + _ < _) => hd9; revert hd9; rename (Around.units _ + _ < _) => hu9; revert hu9; cases A9; dsimp only; intro hu9 hd9 hA9 hh9; subst hA9; subst hh9))
local macro_rules | `(tactic| walk_at "M noloop") => `(tactic| ((fail_if_success (with_reducible show wpAny _ _ (exec (Stmt.While _ _ _ _) _) _ _ _)); (fail_if_success (with_reducible show wpAny _ _ (exec (Stmt.For _ _ _ _ _) _) _ _ _)); (fail_if_success (with_reducible show LCg.CompSrc _ _ _ _ _ _ _ _ _ _ _ _ _ _)); (fail_if_success (with_reducible show wpAny _ _ (eval (PySem.Expr.ListComp _ _ _ _) _) _ _ _)); (fail_if_success (with_reducible show wpAny _ _ _ (fun it s₂ => PairAt3 _ _ _ _ _ _ _ _ _ _ it s₂) _ _))))
local macro_rules | `(tactic| walk_at "M go") => `(tactic| repeat' (walk_at "M noloop"; first | (k_unfold; (try dsimp only)) | (k_end; kc_close) | walk1 | (dsimp only; walk1) | (leave1; walk_say "STEP leave1"; (try dsimp only)) | fail "no step"))
local macro_rules | `(tactic| walk_at "And") => `(tactic| ((with_reducible show PySem.Str.length (_ ++ _) ≤ sizeLine ∧ wpAny _ _ (joinParts _ _) _ _ _); refine fs_and (by (simp only [len_mk, show Str.length Str.empty = 0 from rfl] at *); omega) ?_; intro zF hzF))
local macro_rules | `(tactic| walk_at "joinParts") => `(tactic| (first | (with_reducible show wpAny _ _ (joinParts _ []) _ _ _) | (with_reducible refine joinParts_nilE ?_)); refine fs_nil (by (simp only [len_mk, show Str.length Str.empty = 0 from rfl] at *); omega) ?_)
local macro_rules | `(tactic| walk_at "M enterC") => `(tactic| (refine wpAny_call ?_; k_dflt (refine' code_defC ?k1 ?k2 ?k3 ?k4 ?k5 ?kA ?kF ?kK ?k6 ?k7 ?k8 ?k9 ?kB ?kD ?_ ?c2 ?c3 ?c4; (case kA => first | assumption | exact rfl); (case kF => assumption); (case kK => assumption); (case k1 => k_asm); (case k2 => k_asm); (case k3 => k_asm); (case k4 => k_asm); (case k5 => k_asm); (case k6 => k_is); (case k7 => k_is); (case k8 => first | omega | (dsimp only; omega)); (case k9 => exact BindsTo.of_eq rfl); (case kB => exact rfl); (case kD => decide +kernel); (case c2 => exact rfl); (case c3 => exact rfl); (case c4 => exact rfl); k_whole)))
local macro_rules | `(tactic| walk_at "M next") => `(tactic| (k_here; (with_reducible show wpAny _ _ (call (Value.ref 105) [Value.ref _, Value.int _ _]) _ _ _); k_dflt (refine' next_u ?B ?F ?X ?N ?T ?hA ?hf ?hke ?hh ?hd ?hu ?hst ?hos ?U ?hsc ?m0 ?m1 ?_; (case hA => exact rfl); (case hf => exact rfl); (case hke => exact rfl); (case hh => exact rfl); (case B => k_asm); (case F => k_asm); (case X => k_asm); (case N => k_asm); (case T => k_asm); (case hst => assumption); (case hos => assumption); (case U => k_updF); (case hsc => k_mem); (case hd => ktr_room); (case hu => ktr_units); (case m0 => omega); (case m1 => omega)); intro r9 t9 o9 h9 tk9 hr0 hr1 hst9 F9 N9; (try dsimp only at N9)))
local macro_rules | `(tactic| walk_at "truthy ref") => `(tactic| (k_here; k_dflt (refine' truthy_N ?k1 ?k2 ?_; (case k1 => k_asm); (case k2 => k_mem); k_whole)))
local macro_rules | `(tactic| walk_at "getMethod ref") => `(tactic| (k_here; k_dflt (refine' getMethod_groups_N ?k1 ?k2 ?_; (case k1 => k_asm); (case k2 => k_mem); k_whole)))
local macro_rules | `(tactic| walk_at "call builtin:re.Match.groups") => `(tactic| (k_here; k_dflt (refine' groups49 ?k1 ?k2 ?k3 ?k4 ?_; (case k1 => k_asm); (case k2 => k_asm); (case k3 => assumption); (case k4 => assumption); k_whole); intro D9 h9 t91 t92 tk9 F9 N9 l9))
local macro_rules | `(tactic| walk_at "call type:int") => `(tactic| (k_here; (with_reducible show wpAny _ _ (call _ [Value.str _ _]) _ _ _); refine int_digits (by assumption) ?_))
local macro_rules | `(tactic| walk_at "leaving ref") => `(tactic| (k_here; (refine' leave_raiseS ?k1 ?k0 ?k2 ?k3 ?_; (case k0 => first | assumption | exact Heap.MadeExc.of (by assumption)); (case k2 => assumption); (case k1 => assumption); (case k3 => k_asm); k_whole; intro h' t' S' R' U'; (try dsimp only at S' R' U' ⊢))))
local macro_rules | `(tactic| walk_at "getMethod ref") => `(tactic| (k_here; (with_reducible show wpAny _ _ (getMethod (Value.ref 49) _ _) _ _ _); k_dflt (refine' pat49 ?k1 ?k2 ?_; (case k1 => k_asm); (case k2 => k_asm); k_whole)))
local macro_rules | `(tactic| walk_at "call builtin:re.Pattern.match") => `(tactic| (k_here; (with_reducible show wpAny _ _ (call _ [Value.ref 49, _]) _ _ _); k_dflt (refine' match49_hit ?k1 ?k2 ?k3 ?k4 ?k5 ?_; (case k1 => k_asm); (case k2 => k_asm); (case k3 => k_asm); (case k4 => assumption); (case k5 => assumption); k_whole); intro S9 M9 h9 F9 N9 l9 l9'))
theorem coord_c {w : World} {p : Program} {loose : List Str} {mean : ExcName → Option Value} {mg mb : Str → Option Value}
    {A A₀ : Around} {env : Env} {outer : List Env} {base h₀ : Heap} {L : Addr} {m : Str → Option Value} {news : List (Addr × Obj)} {s : Shared}
    {Q E : Value → Shared → Prop} {a b : Bool} {x d : List Nat} {t : Tok}
    (B : Below A₀ base outer h₀) (F : Fr h₀ L s.heap m) (X : (Mine.hd.heap_39 w.params).In h₀)
    (N : News h₀ L s.heap news) (T : Top p loose mean mg mb h₀)
    (hA : A.frames = some (env :: outer)) (hf : env.frame = some L) (hke : env.scope.kind = .function) (hh : A.handled = none)
    (hd : A.depth + 10 < recursionLimit) (hu : A.units + 80 < cLine) (hx : Letters x) (hdd : Digits d)
    (hret : 0 < NumText.digitsVal d → ∀ D h' t1 t2 tk', Fr h₀ L h' m → News h₀ L h' ((D, pairO (.str ⟨x.toArray⟩ t1) (.int ((NumText.digitsVal d : Nat) : Int) t2)) :: news) → (∀ p ∈ news, p.1 < D) → Q (.ref D) { s with heap := h', toks := tk' })
    (hraise : NumText.digitsVal d = 0 → ∀ G e t vs h' tk', Fr h₀ L G m → RaisedS base G (env :: outer) e (.ref 41) t vs news h' → G.UpToSlots h' → E (.ref e) { s with heap := h', toks := tk' }) :
    wpAny (model PySem.Challenge.rw_ez0207_01.row.prog w) A (call (.ref 66) [.str ⟨(placeL a b x d).toArray⟩ t]) Q E s := by
  have hxl : Str.length ⟨(placeL a b x d).toArray⟩ ≤ 20 := by rw [len_mk]; exact Nat.le_trans (placeL_le hx hdd) (by omega)
  have hlit1 : Str.length (Str.ofString "Invalid cell coordinates (") = 26 := by decide +kernel
  have hlit2 : Str.length (Str.ofString "There is no row 0 (") = 19 := by decide +kernel
  have hlit3 : Str.length (Str.ofString ")") = 1 := by decide +kernel
  obtain ⟨hnd, dp, frs, gds, un⟩ := A
  dsimp only at hA hh hd hu
  subst hA hh
  walk_at "M enter"
  intro g' L' h' FG' F' N' B' X' T'
  dsimp only
  clear hf hke B F X T N
  replace F' : Fr g' L' h' (fun y => List.lookup y [(Str.ofString "coord_string", .str ⟨(placeL a b x d).toArray⟩ t)]) := F'
  walk_at "M go"
  · rename (Fr g' L' _ _) => F1
    rename (News g' L' _ _) => N1
    rename (_ < _ ∧ AllLt _ news) => l1
    rename (∀ p ∈ news, p.1 < _) => l2
    refine leaveK_ F1 N1 ?_
    intro F9 N9
    exact hret (by omega) _ _ _ _ _ F9 (news_skip N9) (fun p hp => Nat.lt_trans (l2 p hp) l1.1)
  · rename_i S9 R9 U9
    exact hraise (by omega) _ _ _ _ _ _ FG' (RaisedS.sub S9 fun p hp => .tail _ hp) U9
local macro_rules | `(tactic| walk_at "call builtin:re.Pattern.match") => `(tactic| (k_here; (with_reducible show wpAny _ _ (call _ [Value.ref 49, _]) _ _ _); k_dflt (refine' match49_fail ?k1 ?k2 ?k3 ?k4 ?_; (case k1 => k_asm); (case k2 => k_asm); (case k3 => assumption); (case k4 => omega); k_whole)))
theorem coord_f {w : World} {p : Program} {loose : List Str} {mean : ExcName → Option Value} {mg mb : Str → Option Value}
    {A A₀ : Around} {env : Env} {outer : List Env} {base h₀ : Heap} {L : Addr} {m : Str → Option Value} {news : List (Addr × Obj)} {s : Shared}
    {Q E : Value → Shared → Prop} {x : List Nat} {t : Tok}
    (B : Below A₀ base outer h₀) (F : Fr h₀ L s.heap m) (X : (Mine.hd.heap_39 w.params).In h₀)
    (N : News h₀ L s.heap news) (T : Top p loose mean mg mb h₀)
    (hA : A.frames = some (env :: outer)) (hf : env.frame = some L) (hke : env.scope.kind = .function) (hh : A.handled = none)
    (hd : A.depth + 10 < recursionLimit) (hu : A.units + 80 < cLine) (hx : NoPlace x) (hxl5 : x.length ≤ 16)
    (hraise : ∀ G e t vs h' tk', Fr h₀ L G m → RaisedS base G (env :: outer) e (.ref 41) t vs news h' → G.UpToSlots h' → E (.ref e) { s with heap := h', toks := tk' }) :
    wpAny (model PySem.Challenge.rw_ez0207_01.row.prog w) A (call (.ref 66) [.str ⟨x.toArray⟩ t]) Q E s := by
  have hxl : Str.length ⟨x.toArray⟩ ≤ 20 := by rw [len_mk]; omega
  have hlit1 : Str.length (Str.ofString "Invalid cell coordinates (") = 26 := by decide +kernel
  have hlit2 : Str.length (Str.ofString "There is no row 0 (") = 19 := by decide +kernel
  have hlit3 : Str.length (Str.ofString ")") = 1 := by decide +kernel
  obtain ⟨hnd, dp, frs, gds, un⟩ := A
  dsimp only at hA hh hd hu
  subst hA hh
  walk_at "M enter"
  intro g' L' h' FG' F' N' B' X' T'
  dsimp only
  clear hf hke B F X T N
  replace F' : Fr g' L' h' (fun y => List.lookup y [(Str.ofString "coord_string", .str ⟨x.toArray⟩ t)]) := F'
  walk_at "M go"
  rename_i S9 R9 U9
  exact hraise _ _ _ _ _ _ FG' S9 U9
end
section
theorem off_T1 : True := by
  w_top off
  trivial
local macro_rules | `(tactic| walk_at "M none") => `(tactic| fail "none")
local macro_rules | `(tactic| walk_at "M none") => `(tactic| fail "none")
local macro_rules | `(tactic| walk_at "M none") => `(tactic| fail "none")
local macro_rules | `(tactic| walk_at "M none") => `(tactic| fail "none")
local macro_rules | `(tactic| walk_at "M none") => `(tactic| fail "none")
local macro_rules | `(tactic| walk_at "M none") => `(tactic| fail "none")
local macro_rules | `(tactic| walk_at "M none") => `(tactic| fail "none")
local macro_rules | `(tactic| walk_at "M none") => `(tactic| fail "none")
local macro_rules | `(tactic| walk_at "M none") => `(tactic| fail "none")
local macro_rules | `(tactic| walk_at "M none") => `(tactic| fail "none")
local macro_rules | `(tactic| walk_at "M none") => `(tactic| fail "none")
local macro_rules | `(tactic| walk_at "M none") => `(tactic| fail "none")
local macro_rules | `(tactic| walk_at "M none") => `(tactic| fail "none")
local macro_rules | `(tactic| walk_at "M none") => `(tactic| fail "none")
local macro_rules | `(tactic| walk_at "M none") => `(tactic| fail "none")
local macro_rules | `(tactic| walk_at "M none") => `(tactic| fail "none")
local macro_rules | `(tactic| walk_at "M none") => `(tactic| fail "none")
local macro_rules | `(tactic| walk_at "M none") => `(tactic| fail "none")
local macro_rules | `(tactic| walk_at "M none") => `(tactic| fail "none")
local macro_rules | `(tactic| walk_at "M none") => `(tactic| fail "none")
local macro_rules | `(tactic| walk_at "M none") => `(tactic| fail "none")
local macro_rules | `(tactic| walk_at "M none") => `(tactic| fail "none")
local macro_rules | `(tactic| walk_at "M none") => `(tactic| fail "none")
local macro_rules | `(tactic| walk_at "M none") => `(tactic| fail "none")
local macro_rules | `(tactic| walk_at "M none") => `(tactic| fail "none")
local macro_rules | `(tactic| walk_at "M none") => `(tactic| fail "none")
local macro_rules | `(tactic| walk_at "M none") => `(tactic| fail "none")
local macro_rules | `(tactic| walk_at "M none") => `(tactic| fail "none")
local macro_rules | `(tactic| walk_at "M none") => `(tactic| fail "none")
local macro_rules | `(tactic| walk_at "M none") => `(tactic| fail "none")
local macro_rules | `(tactic| k_all) => `(tactic| assumption)
local macro_rules | `(tactic| walk_at "M enter") => `(tactic| (refine wpAny_call ?_; k_dflt (refine' code_def ?k1 ?k2 ?k3 ?k4 ?k5 ?kA ?kF ?kK ?k6 ?k7 ?k8 ?k9 ?kB ?_ ?c2 ?c3 ?c4 ?c5; (case kA => first | assumption | exact rfl); (case kF => assumption); (case kK => assumption); (case k1 => k_asm); (case k2 => k_asm); (case k3 => k_asm); (case k4 => k_asm); (case k5 => k_asm); (case k6 => k_is); (case k7 => k_is); (case k8 => first | omega | (dsimp only; omega)); (case k9 => exact BindsTo.of_eq rfl); (case c5 => decide); (case kB => exact locs rfl); (case c2 => exact rfl); (case c3 => exact rfl); (case c4 => exact rfl); k_whole)))
local macro_rules | `(tactic| walk_at "M enterT") => `(tactic| (refine wpAny_call ?_; k_dflt (refine' code_defT ?k1 ?k2 ?k3 ?k4 ?k5 ?kA ?kF ?kK ?k6 ?k7 ?k8 ?k9 ?kB ?_ ?c2 ?c3 ?c4 ?c5; (case kA => first | assumption | exact rfl); (case kF => assumption); (case kK => assumption); (case k1 => k_asm); (case k2 => k_asm); (case k3 => k_asm); (case k4 => k_asm); (case k5 => k_asm); (case k6 => k_is); (case k7 => k_is); (case k8 => first | omega | (dsimp only; omega)); (case k9 => exact BindsTo.of_eq rfl); (case c5 => decide); (case kB => exact locs rfl); (case c2 => exact rfl); (case c3 => exact rfl); (case c4 => exact rfl); k_whole)))
local macro_rules | `(tactic| walk_at "M open") => `(tactic| (rename Around => A9; rename (Around.frames _ = _) => hA9; rename (Around.handled _ = _) => hh9; revert hA9 hh9; rename (Around.depth _ + _ < _) => hd9; revert hd9; rename (Around.units _ + _ < _) => hu9; revert hu9; cases A9; dsimp only; intro hu9 hd9 hA9 hh9; subst hA9; subst hh9))
local macro_rules | `(tactic| walk_at "M noloop") => `(tactic| ((fail_if_success (with_reducible show wpAny _ _ (exec (Stmt.While _ _ _ _) _) _ _ _)); (fail_if_success (with_reducible show wpAny _ _ (exec (Stmt.For _ _ _ _ _) _) _ _ _)); (fail_if_success (with_reducible show LCg.CompSrc _ _ _ _ _ _ _ _ _ _ _ _ _ _)); (fail_if_success (with_reducible show wpAny _ _ (eval (PySem.Expr.ListComp _ _ _ _) _) _ _ _)); (fail_if_success (with_reducible show wpAny _ _ _ (fun it s₂ => PairAt3 _ _ _ _ _ _ _ _ _ _ it s₂) _ _))))
local macro_rules | `(tactic| walk_at "M go") => `(tactic| repeat' (walk_at "M noloop"; first | (k_unfold; (try dsimp only)) | (k_end; kc_close) | walk1 | (dsimp only; walk1) | (leave1; walk_say "STEP leave1"; (try dsimp only)) | fail "no step"))
local macro_rules | `(tactic| walk_at "And") => `(tactic| ((with_reducible show PySem.Str.length (_ ++ _) ≤ sizeLine ∧ wpAny _ _ (joinParts _ _) _ _ _); refine fs_and (by (simp only [len_mk, show Str.length Str.empty = 0 from rfl] at *); omega) ?_; intro zF hzF))
local macro_rules | `(tactic| walk_at "joinParts") => `(tactic| (first | (with_reducible show wpAny _ _ (joinParts _ []) _ _ _) | (with_reducible refine joinParts_nilE ?_)); refine fs_nil (by (simp only [len_mk, show Str.length Str.empty = 0 from rfl] at *); omega) ?_)
local macro_rules | `(tactic| walk_at "M enterC") => `(tactic| (refine wpAny_call ?_; k_dflt (refine' code_defC ?k1 ?k2 ?k3 ?k4 ?k5 ?kA ?kF ?kK ?k6 ?k7 ?k8 ?k9 ?kB ?kD ?_ ?c2 ?c3 ?c4; (case kA => first | assumption | exact rfl); (case kF => assumption); (case kK => assumption); (case k1 => k_asm); (case k2 => k_asm); (case k3 => k_asm); (case k4 => k_asm); (case k5 => k_asm); (case k6 => k_is); (case k7 => k_is); (case k8 => first | omega | (dsimp only; omega)); (case k9 => exact BindsTo.of_eq rfl); (case kB => exact rfl); (case kD => decide +kernel); (case c2 => exact rfl); (case c3 => exact rfl); (case c4 => exact rfl); k_whole)))
local macro_rules | `(tactic| walk_at "M next") => `(tactic| (k_here; (with_reducible show wpAny _ _ (call (Value.ref 105) [Value.ref _, Value.int _ _]) _ _ _); k_dflt (refine' next_u ?B ?F ?X ?N ?T ?hA ?hf ?hke ?hh ?hd ?hu ?hst ?hos ?U ?hsc ?m0 ?m1 ?_; (case hA => exact rfl); (case hf => exact rfl); (case hke => exact rfl); (case hh => exact rfl); (case B => k_asm); (case F => k_asm); (case X => k_asm); (case N => k_asm); (case T => k_asm); (case hst => assumption); (case hos => assumption); (case U => k_updF); (case hsc => k_mem); (case hd => ktr_room); (case hu => ktr_units); (case m0 => omega); (case m1 => omega)); intro r9 t9 o9 h9 tk9 hr0 hr1 hst9 F9 N9; (try dsimp only at N9)))
local macro_rules | `(tactic| walk_at "call ref") => `(tactic| (k_here; (with_reducible show wpAny _ _ (call (Value.ref 91) [Value.str _ _]) _ _ _); k_dflt (refine' index_c ?B ?F ?X ?N ?T ?XB ?TB ?hA ?hf ?hke ?hh ?hd ?hu ?hx ?hux ?hul ?_ ?_; (case hA => exact rfl); (case hf => exact rfl); (case hke => exact rfl); (case hh => exact rfl); (case B => k_asm); (case F => k_asm); (case X => k_asm); (case N => k_asm); (case T => k_asm); (case XB => assumption); (case TB => assumption); (case hx => assumption); (case hux => assumption); (case hul => assumption); (case hd => ktr_room); (case hu => ktr_units)); intro v9 hv9 t9 h9 tk9 F9 N9; rotate_left; intro hv9 G9 e9 h9 tk9 F9 S9 U9; rotate_left))
theorem told91_c {w : World} {p : Program} {loose : List Str} {mean : ExcName → Option Value} {mg mb : Str → Option Value}
    {A A₀ : Around} {env : Env} {base h₀ : Heap} {L : Addr} {m : Str → Option Value} {news : List (Addr × Obj)} {s : Shared}
    {Q E : Value → Shared → Prop} {x ux : List Nat} {t : Tok}
    (B : Below A₀ base [] h₀) (F : Fr h₀ L s.heap m) (X : (Mine.hd.heap_39 w.params).In h₀)
    (N : News h₀ L s.heap news) (T : Top p loose mean mg mb h₀) (XB : (Mine.hd.heap_39 w.params).In base) (TB : Top p loose mean mg mb base)
    (hA : A.frames = some [env]) (hf : env.frame = some L) (hke : env.scope.kind = .function) (hh : A.handled = none)
    (hd : A.depth + 20 < recursionLimit) (hu : A.units + 160 < cLine) (hx : x.length ≤ 4) (hux : Txt.upper ⟨x.toArray⟩ = ⟨ux.toArray⟩) (hul : ux.length = x.length)
    (hret : ∀ v h' tk', OptInt (numV ux x.length) v → Fr h₀ L h' m → News h₀ L h' news → Q v { s with heap := h', toks := tk' }) :
    wpAny (model PySem.Challenge.rw_ez0207_01.row.prog w) A (call (.ref 126) [.ref 91, .str ⟨x.toArray⟩ t]) Q E s := by
  obtain ⟨hnd, dp, frs, gds, un⟩ := A
  dsimp only at hA hh hd hu
  subst hA hh
  walk_at "M enterT"
  intro g' L' h' FG' F' N' B' X' T' D'
  dsimp only
  clear hf hke B F X T N
  replace F' : Fr g' L' h' (fun y => List.lookup y [(Str.ofString "one", .str ⟨x.toArray⟩ t), (Str.ofString "deed", .ref 91)]) := F'
  walk_at "M go"
  · rename (numV ux x.length = some _) => hv
    rename (Fr g' L' _ _) => F1
    rename (News g' L' _ _) => N1
    refine leaveS0_ F1 N1 KtsTurn.refl ?_
    intro F9 N9
    exact hret _ _ _ (by rw [hv]; exact ⟨_, rfl⟩) F9 N9
  · rename (numV ux x.length = none) => hv
    rename (KtsTurn _ g' _) => T1
    rename (Fr _ L' _ _) => F1
    rename (News _ L' _ _) => N1
    refine leaveS0_ F1 N1 T1 ?_
    intro F9 N9
    exact hret _ _ _ (by rw [hv]; rfl) F9 N9
end
section
theorem off_V1 : True := by
  w_top off
  trivial
local macro_rules | `(tactic| walk_at "M none") => `(tactic| fail "none")
local macro_rules | `(tactic| walk_at "M none") => `(tactic| fail "none")
local macro_rules | `(tactic| walk_at "M none") => `(tactic| fail "none")
local macro_rules | `(tactic| walk_at "M none") => `(tactic| fail "none")
local macro_rules | `(tactic| walk_at "M none") => `(tactic| fail "none")
local macro_rules | `(tactic| walk_at "M none") => `(tactic| fail "none")
local macro_rules | `(tactic| walk_at "M none") => `(tactic| fail "none")
local macro_rules | `(tactic| walk_at "M none") => `(tactic| fail "none")
local macro_rules | `(tactic| walk_at "M none") => `(tactic| fail "none")
local macro_rules | `(tactic| walk_at "M none") => `(tactic| fail "none")
local macro_rules | `(tactic| walk_at "M none") => `(tactic| fail "none")
local macro_rules | `(tactic| walk_at "M none") => `(tactic| fail "none")
local macro_rules | `(tactic| walk_at "M none") => `(tactic| fail "none")
local macro_rules | `(tactic| walk_at "M none") => `(tactic| fail "none")
local macro_rules | `(tactic| walk_at "M none") => `(tactic| fail "none")
local macro_rules | `(tactic| walk_at "M none") => `(tactic| fail "none")
local macro_rules | `(tactic| walk_at "M none") => `(tactic| fail "none")
local macro_rules | `(tactic| walk_at "M none") => `(tactic| fail "none")
local macro_rules | `(tactic| walk_at "M none") => `(tactic| fail "none")
local macro_rules | `(tactic| walk_at "M none") => `(tactic| fail "none")
local macro_rules | `(tactic| walk_at "M none") => `(tactic| fail "none")
local macro_rules | `(tactic| walk_at "M none") => `(tactic| fail "none")
local macro_rules | `(tactic| walk_at "M none") => `(tactic| fail "none")
local macro_rules | `(tactic| walk_at "M none") => `(tactic| fail "none")
local macro_rules | `(tactic| walk_at "M none") => `(tactic| fail "none")
local macro_rules | `(tactic| walk_at "M none") => `(tactic| fail "none")
local macro_rules | `(tactic| walk_at "M none") => `(tactic| fail "none")
local macro_rules | `(tactic| walk_at "M none") => `(tactic| fail "none")
local macro_rules | `(tactic| walk_at "M none") => `(tactic| fail "none")
local macro_rules | `(tactic| walk_at "M none") => `(tactic| fail "none")
local macro_rules | `(tactic| walk_at "M none") => `(tactic| fail "none")
local macro_rules | `(tactic| walk_at "M none") => `(tactic| fail "none")
local macro_rules | `(tactic| walk_at "M none") => `(tactic| fail "none")
local macro_rules | `(tactic| walk_at "M none") => `(tactic| fail "none")
local macro_rules | `(tactic| walk_at "M none") => `(tactic| fail "none")
local macro_rules | `(tactic| walk_at "M none") => `(tactic| fail "none")
local macro_rules | `(tactic| walk_at "M none") => `(tactic| fail "none")
local macro_rules | `(tactic| walk_at "M none") => `(tactic| fail "none")
local macro_rules | `(tactic| walk_at "M none") => `(tactic| fail "none")
local macro_rules | `(tactic| walk_at "M none") => `(tactic| fail "none")
local macro_rules | `(tactic| walk_at "M none") => `(tactic| fail "none")
local macro_rules | `(tactic| walk_at "M none") => `(tactic| fail "none")
local macro_rules | `(tactic| walk_at "M none") => `(tactic| fail "none")
local macro_rules | `(tactic| walk_at "M none") => `(tactic| fail "none")
local macro_rules | `(tactic| walk_at "M none") => `(tactic| fail "none")
local macro_rules | `(tactic| walk_at "M none") => `(tactic| fail "none")
local macro_rules | `(tactic| walk_at "M none") => `(tactic| fail "none")
local macro_rules | `(tactic| walk_at "M none") => `(tactic| fail "none")
local macro_rules | `(tactic| walk_at "M none") => `(tactic| fail "none")
local macro_rules | `(tactic| walk_at "M none") => `(tactic| fail "none")
local macro_rules | `(tactic| walk_at "M none") => `(tactic| fail "none")
local macro_rules | `(tactic| walk_at "M none") => `(tactic| fail "none")
local macro_rules | `(tactic| walk_at "M none") => `(tactic| fail "none")
local macro_rules | `(tactic| walk_at "M none") => `(tactic| fail "none")
local macro_rules | `(tactic| walk_at "M none") => `(tactic| fail "none")
local macro_rules | `(tactic| walk_at "M none") => `(tactic| fail "none")
local macro_rules | `(tactic| walk_at "M none") => `(tactic| fail "none")
local macro_rules | `(tactic| walk_at "M none") => `(tactic| fail "none")
local macro_rules | `(tactic| walk_at "M none") => `(tactic| fail "none")
local macro_rules | `(tactic| walk_at "M none") => `(tactic| fail "none")
local macro_rules | `(tactic| k_all) => `(tactic| assumption)
local macro_rules | `(tactic| walk_at "M enter") => `(tactic| (refine wpAny_call ?_; k_dflt (refine' code_def ?k1 ?k2 ?k3 ?k4 ?k5 ?kA ?kF ?kK ?k6 ?k7 ?k8 ?k9 ?kB ?_ ?c2 ?c3 ?c4 ?c5; (case kA => first | assumption | exact rfl); (case kF => assumption); (case kK => assumption); (case k1 => k_asm); (case k2 => k_asm); (case k3 => k_asm); (case k4 => k_asm); (case k5 => k_asm); (case k6 => k_is); (case k7 => k_is); (case k8 => first | omega | (dsimp only; omega)); (case k9 => exact BindsTo.of_eq rfl); (case c5 => decide); (case kB => exact locs rfl); (case c2 => exact rfl); (case c3 => exact rfl); (case c4 => exact rfl); k_whole)))
local macro_rules | `(tactic| walk_at "M enterT") => `(tactic| (refine wpAny_call ?_; k_dflt (refine' code_defT ?k1 ?k2 ?k3 ?k4 ?k5 ?kA ?kF ?kK ?k6 ?k7 ?k8 ?k9 ?kB ?_ ?c2 ?c3 ?c4 ?c5; (case kA => first | assumption | exact rfl); (case kF => assumption); (case kK => assumption); (case k1 => k_asm); (case k2 => k_asm); (case k3 => k_asm); (case k4 => k_asm); (case k5 => k_asm); (case k6 => k_is); (case k7 => k_is); (case k8 => first | omega | (dsimp only; omega)); (case k9 => exact BindsTo.of_eq rfl); (case c5 => decide); (case kB => exact locs rfl); (case c2 => exact rfl); (case c3 => exact rfl); (case c4 => exact rfl); k_whole)))
local macro_rules | `(tactic| walk_at "M open") => `(tactic| (rename Around => A9; rename (Around.frames _ = _) => hA9; rename (Around.handled _ = _) => hh9; revert hA9 hh9; rename (Around.depth _ + _ < _) => hd9; revert hd9; rename (Around.units _ + _ < _) => hu9; revert hu9; cases A9; dsimp only; intro hu9 hd9 hA9 hh9; subst hA9; subst hh9))
local macro_rules | `(tactic| walk_at "M noloop") => `(tactic| ((fail_if_success (with_reducible show wpAny _ _ (exec (Stmt.While _ _ _ _) _) _ _ _)); (fail_if_success (with_reducible show wpAny _ _ (exec (Stmt.For _ _ _ _ _) _) _ _ _)); (fail_if_success (with_reducible show LCg.CompSrc _ _ _ _ _ _ _ _ _ _ _ _ _ _)); (fail_if_success (with_reducible show wpAny _ _ (eval (PySem.Expr.ListComp _ _ _ _) _) _ _ _)); (fail_if_success (with_reducible show wpAny _ _ _ (fun it s₂ => PairAt3 _ _ _ _ _ _ _ _ _ _ it s₂) _ _))))
local macro_rules | `(tactic| walk_at "M go") => `(tactic| repeat' (walk_at "M noloop"; first | (k_unfold; (try dsimp only)) | (k_end; kc_close) | walk1 | (dsimp only; walk1) | (leave1; walk_say "STEP leave1"; (try dsimp only)) | fail "no step"))
local macro_rules | `(tactic| walk_at "And") => `(tactic| ((with_reducible show PySem.Str.length (_ ++ _) ≤ sizeLine ∧ wpAny _ _ (joinParts _ _) _ _ _); refine fs_and (by (simp only [len_mk, show Str.length Str.empty = 0 from rfl] at *); omega) ?_; intro zF hzF))
local macro_rules | `(tactic| walk_at "joinParts") => `(tactic| (first | (with_reducible show wpAny _ _ (joinParts _ []) _ _ _) | (with_reducible refine joinParts_nilE ?_)); refine fs_nil (by (simp only [len_mk, show Str.length Str.empty = 0 from rfl] at *); omega) ?_)
local macro_rules | `(tactic| walk_at "M enterC") => `(tactic| (refine wpAny_call ?_; k_dflt (refine' code_defC ?k1 ?k2 ?k3 ?k4 ?k5 ?kA ?kF ?kK ?k6 ?k7 ?k8 ?k9 ?kB ?kD ?_ ?c2 ?c3 ?c4; (case kA => first | assumption | exact rfl); (case kF => assumption); (case kK => assumption); (case k1 => k_asm); (case k2 => k_asm); (case k3 => k_asm); (case k4 => k_asm); (case k5 => k_asm); (case k6 => k_is); (case k7 => k_is); (case k8 => first | omega | (dsimp only; omega)); (case k9 => exact BindsTo.of_eq rfl); (case kB => exact rfl); (case kD => decide +kernel); (case c2 => exact rfl); (case c3 => exact rfl); (case c4 => exact rfl); k_whole)))
local macro_rules | `(tactic| walk_at "M next") => `(tactic| (k_here; (with_reducible show wpAny _ _ (call (Value.ref 105) [Value.ref _, Value.int _ _]) _ _ _); k_dflt (refine' next_u ?B ?F ?X ?N ?T ?hA ?hf ?hke ?hh ?hd ?hu ?hst ?hos ?U ?hsc ?m0 ?m1 ?_; (case hA => exact rfl); (case hf => exact rfl); (case hke => exact rfl); (case hh => exact rfl); (case B => k_asm); (case F => k_asm); (case X => k_asm); (case N => k_asm); (case T => k_asm); (case hst => assumption); (case hos => assumption); (case U => k_updF); (case hsc => k_mem); (case hd => ktr_room); (case hu => ktr_units); (case m0 => omega); (case m1 => omega)); intro r9 t9 o9 h9 tk9 hr0 hr1 hst9 F9 N9; (try dsimp only at N9)))
def isDig (c : Str) : Bool := decide (48 ≤ c.cps.getD 0 0 ∧ c.cps.getD 0 0 ≤ 57)
theorem dg_list : (Str.ofString "0123456789").cps.toList = (List.range 10).map (48 + ·) := by decide +kernel
theorem dg_in (c : Nat) : (!(Builtin.Str.occurrences (Str.ofString "0123456789") ⟨#[c]⟩ 0 (Str.ofString "0123456789").length 1).isEmpty) = isDig ⟨#[c]⟩ := by
  have h := StrLaws.found_one (Str.ofString "0123456789") c
  rw [dg_list] at h
  rw [h]
  unfold isDig
  apply decide_eq_decide.mpr
  simp only [List.mem_map, List.mem_range]
  constructor
  · rintro ⟨a, ha, rfl⟩
    show 48 ≤ 48 + a ∧ 48 + a ≤ 57
    omega
  · rintro ⟨h1, h2⟩
    have h1' : 48 ≤ c := h1
    have h2' : c ≤ 57 := h2
    exact ⟨c - 48, by omega, by omega⟩
theorem slice_row {x d : List Nat} : Txt.slice ⟨(x ++ d).toArray⟩ (some (x.length : Int)) none = ⟨d.toArray⟩ := by
  have hl : Str.length ⟨(x ++ d).toArray⟩ = x.length + d.length := by rw [len_mk, List.length_append]
  rw [slice_from_eq (b := (Str.length ⟨(x ++ d).toArray⟩ : Int)) (by omega) (by omega) rfl, hl]
  congr 2
  show (((x ++ d).drop (x.length : Int).toNat).take _) = d
  rw [Int.toNat_natCast, List.drop_left]
  exact List.take_of_length_le (by omega)
theorem slice_col {x d : List Nat} : Txt.slice ⟨(x ++ d).toArray⟩ none (some (x.length : Int)) = ⟨x.toArray⟩ := by
  have hl : Str.length ⟨(x ++ d).toArray⟩ = x.length + d.length := by rw [len_mk, List.length_append]
  have := beq_iff_eq.mp (slice_closes_toL (x := ⟨(x ++ d).toArray⟩) (j := (x.length : Int)) (by omega) (by omega))
  rw [this]
  congr 2
  show (((x ++ d).drop 0).take ((x.length : Int) - 0).toNat) = x
  rw [Int.sub_zero, Int.toNat_natCast, List.drop_zero, List.take_left]
theorem find_dig : ∀ (x : List Nat) (d0 : Nat) (r : List Nat) (k : Nat), (∀ c ∈ x, isDig ⟨#[c]⟩ = false) → isDig ⟨#[d0]⟩ = true →
    (((x ++ d0 :: r).map fun n => (⟨#[n]⟩ : Str)).zipIdx k).find? (fun p => isDig p.1) = some (⟨#[d0]⟩, k + x.length)
  | [], d0, r, k, _, h => by simp [h]
  | c :: x, d0, r, k, hx, h => by
    have := find_dig x d0 r (k + 1) (fun c hc => hx c (.tail _ hc)) h
    rw [List.cons_append, List.map_cons, List.zipIdx_cons, List.find?_cons, show isDig (⟨#[c]⟩ : Str) = false from hx c (.head _), this]
    show some (_, k + 1 + x.length) = some (_, k + (x.length + 1))
    rw [show k + 1 + x.length = k + (x.length + 1) by omega]
local macro_rules | `(tactic| walk_at "call type:int") => `(tactic| (k_here; (with_reducible show wpAny _ _ (call _ [Value.str _ _]) _ _ _); simp only [slice_row]; refine int_digits (by assumption) ?_))
local macro_rules | `(tactic| walk_at "call ref") => `(tactic| (k_here; (with_reducible show wpAny _ _ (call (Value.ref 91) [Value.str _ _]) _ _ _); simp only [slice_col]; k_dflt (refine' index_c ?B ?F ?X ?N ?T ?XB ?TB ?hA ?hf ?hke ?hh ?hd ?hu ?hx ?hux ?hul ?_ ?_; (case hA => exact rfl); (case hf => exact rfl); (case hke => exact rfl); (case hh => exact rfl); (case B => k_asm); (case F => k_asm); (case X => k_asm); (case N => k_asm); (case T => k_asm); (case XB => assumption); (case TB => assumption); (case hx => omega); (case hux => assumption); (case hul => assumption); (case hd => ktr_room); (case hu => ktr_units)); intro v9 hv9 t9 h9 tk9 F9 N9; rotate_left; intro hv9 G9 e9 h9 tk9 F9 S9 U9; ((rename (numV _ _ = some _) => q9); rw [q9] at hv9; cases hv9)))
theorem tuple_c {w : World} {p : Program} {loose : List Str} {mean : ExcName → Option Value} {mg mb : Str → Option Value}
    {A A₀ : Around} {env : Env} {outer : List Env} {base h₀ : Heap} {L : Addr} {m : Str → Option Value} {news : List (Addr × Obj)} {s : Shared}
    {Q E : Value → Shared → Prop} {x ux d : List Nat} {t : Tok}
    (B : Below A₀ base outer h₀) (F : Fr h₀ L s.heap m) (X : (Mine.hd.heap_39 w.params).In h₀)
    (N : News h₀ L s.heap news) (T : Top p loose mean mg mb h₀) (XB : (Mine.hd.heap_39 w.params).In base) (TB : Top p loose mean mg mb base)
    (hA : A.frames = some (env :: outer)) (hf : env.frame = some L) (hke : env.scope.kind = .function) (hh : A.handled = none)
    (hd : A.depth + 20 < recursionLimit) (hu : A.units + 160 < cLine) (hx : Letters x) (hdd : Digits d) (hux : Txt.upper ⟨x.toArray⟩ = ⟨ux.toArray⟩) (hul : ux.length = x.length) {v : Int} (hv : numV ux x.length = some v)
    (hret : ∀ D h' t1 t2 tk', Fr h₀ L h' m → News h₀ L h' ((D, pairO (.int ((NumText.digitsVal d : Nat) : Int) t1) (.int v t2)) :: news) → (∀ p ∈ news, p.1 < D) → Q (.ref D) { s with heap := h', toks := tk' }) :
    wpAny (model PySem.Challenge.rw_ez0207_01.row.prog w) A (call (.ref 98) [.str ⟨(x ++ d).toArray⟩ t]) Q E s := by
  obtain ⟨hnd, dp, frs, gds, un⟩ := A
  dsimp only at hA hh hd hu
  subst hA hh
  walk_at "M enter"
  intro g' L' h' FG' F' N' B' X' T'
  dsimp only
  clear hf hke B F X T N
  replace F' : Fr g' L' h' (fun y => List.lookup y [(Str.ofString "coordinate", .str ⟨(x ++ d).toArray⟩ t)]) := F'
  walk_at "M go"
  refine For_pair3F F' rfl rfl rfl rfl ?_ (fun _ => rfl)
  walk_at "M go"
  rename (PairSrcL _ _ _ _ _ _ _ _ _ _ _ _) => S
  refine Pair_leave (pz := fun c _ => isDig c) (PairSrcL.at S _ rfl) rfl ?_ ?_ ?_
  · intro i a t v s₁ own hia hiv F1 N1
    obtain ⟨cn, rfl, hcn⟩ : ∃ n, a = (⟨#[n]⟩ : Str) ∧ (x ++ d)[i]? = some n := by
      rw [signs, List.getElem?_map] at hia
      cases e : (⟨(x ++ d).toArray⟩ : Str).cps.toList[i]? with
      | none => rw [e] at hia; cases hia
      | some n => rw [e] at hia; exact ⟨n, (Option.some.inj hia).symm, rfl⟩
    obtain ⟨t1, rfl⟩ := ItemKind.str_is hiv
    walk_at "M go"
    · exact dg_in cn
    · exact ⟨_, _, rfl, fun _ _ e => e⟩
  · intro i a t v own h₄ tk₄ hia hpz hfind hiv F1 N1
    have hx3 := hx.2.1
    have hx4 : x.length ≤ 4 := by omega
    have hlen : Str.length ⟨(x ++ d).toArray⟩ ≤ 20 := by
      rw [len_mk, List.length_append]
      have := hdd.le.2
      omega
    obtain ⟨d0, r, rfl⟩ : ∃ d0 r, d = d0 :: r := by
      cases d with
      | nil => exact absurd hdd.le.1 (by simp)
      | cons d0 r => exact ⟨d0, r, rfl⟩
    have h9 := find_dig x d0 r 0 (fun c hc => by
      have := hx.2.2 c hc
      exact decide_eq_false (fun q => by
        have q1 : 48 ≤ c := q.1
        have q2 : c ≤ 57 := q.2
        omega)) (decide_eq_true (hdd.2 d0 (.head _)))
    have hi : i = x.length := by
      have : (List.find? (fun p => isDig p.1) (signs ⟨(x ++ d0 :: r).toArray⟩).zipIdx) = some (⟨#[d0]⟩, 0 + x.length) := h9
      rw [hfind] at this
      have := congrArg Prod.snd (Option.some.inj this)
      simpa using this
    subst hi
    walk_at "M go"
    rename (numV ux x.length = some _) => hv9
    obtain rfl := Option.some.inj (hv.symm.trans hv9)
    rename (Fr g' L' _ _) => F8
    rename (News g' L' _ _) => N8
    rename (∀ p ∈ own ++ news, p.1 < _) => l1
    refine leaveK_ F8 N8 ?_
    intro F9 N9
    exact hret _ _ _ _ _ F9 (news_mid N9) fun p hp => l1 p (List.mem_append_right _ hp)
  · intro h₄ tk₄ vi vl F1 N1 hall
    exfalso
    obtain ⟨d0, r, rfl⟩ : ∃ d0 r, d = d0 :: r := by
      cases d with
      | nil => exact absurd hdd.le.1 (by simp)
      | cons d0 r => exact ⟨d0, r, rfl⟩
    have hm : (⟨#[d0]⟩ : Str) ∈ signs ⟨(x ++ d0 :: r).toArray⟩ := by simp [signs]
    obtain ⟨k, hk⟩ := List.getElem?_of_mem hm
    have := hall (⟨#[d0]⟩, k) (List.mem_of_getElem? (zipIdx_get hk))
    have q : isDig ⟨#[d0]⟩ = true := decide_eq_true (hdd.2 d0 (.head _))
    have this' : isDig ⟨#[d0]⟩ = false := this
    rw [q] at this'
    cases this'
end
section
theorem off_N8 : True := by
  w_top off
  trivial
local macro_rules | `(tactic| walk_at "M none") => `(tactic| fail "none")
local macro_rules | `(tactic| walk_at "M none") => `(tactic| fail "none")
local macro_rules | `(tactic| walk_at "M none") => `(tactic| fail "none")
local macro_rules | `(tactic| walk_at "M none") => `(tactic| fail "none")
local macro_rules | `(tactic| walk_at "M none") => `(tactic| fail "none")
local macro_rules | `(tactic| walk_at "M none") => `(tactic| fail "none")
local macro_rules | `(tactic| walk_at "M none") => `(tactic| fail "none")
local macro_rules | `(tactic| walk_at "M none") => `(tactic| fail "none")
local macro_rules | `(tactic| walk_at "M none") => `(tactic| fail "none")
local macro_rules | `(tactic| walk_at "M none") => `(tactic| fail "none")
local macro_rules | `(tactic| walk_at "M none") => `(tactic| fail "none")
local macro_rules | `(tactic| walk_at "M none") => `(tactic| fail "none")
local macro_rules | `(tactic| walk_at "M none") => `(tactic| fail "none")
local macro_rules | `(tactic| walk_at "M none") => `(tactic| fail "none")
local macro_rules | `(tactic| walk_at "M none") => `(tactic| fail "none")
local macro_rules | `(tactic| walk_at "M none") => `(tactic| fail "none")
local macro_rules | `(tactic| walk_at "M none") => `(tactic| fail "none")
local macro_rules | `(tactic| walk_at "M none") => `(tactic| fail "none")
local macro_rules | `(tactic| walk_at "M none") => `(tactic| fail "none")
local macro_rules | `(tactic| walk_at "M none") => `(tactic| fail "none")
local macro_rules | `(tactic| walk_at "M none") => `(tactic| fail "none")
local macro_rules | `(tactic| walk_at "M none") => `(tactic| fail "none")
local macro_rules | `(tactic| walk_at "M none") => `(tactic| fail "none")
local macro_rules | `(tactic| walk_at "M none") => `(tactic| fail "none")
local macro_rules | `(tactic| walk_at "M none") => `(tactic| fail "none")
local macro_rules | `(tactic| walk_at "M none") => `(tactic| fail "none")
local macro_rules | `(tactic| walk_at "M none") => `(tactic| fail "none")
local macro_rules | `(tactic| walk_at "M none") => `(tactic| fail "none")
local macro_rules | `(tactic| walk_at "M none") => `(tactic| fail "none")
local macro_rules | `(tactic| walk_at "M none") => `(tactic| fail "none")
local macro_rules | `(tactic| walk_at "M none") => `(tactic| fail "none")
local macro_rules | `(tactic| walk_at "M none") => `(tactic| fail "none")
local macro_rules | `(tactic| walk_at "M none") => `(tactic| fail "none")
local macro_rules | `(tactic| walk_at "M none") => `(tactic| fail "none")
local macro_rules | `(tactic| walk_at "M none") => `(tactic| fail "none")
local macro_rules | `(tactic| walk_at "M none") => `(tactic| fail "none")
local macro_rules | `(tactic| walk_at "M none") => `(tactic| fail "none")
local macro_rules | `(tactic| walk_at "M none") => `(tactic| fail "none")
local macro_rules | `(tactic| walk_at "M none") => `(tactic| fail "none")
local macro_rules | `(tactic| walk_at "M none") => `(tactic| fail "none")
local macro_rules | `(tactic| walk_at "M none") => `(tactic| fail "none")
local macro_rules | `(tactic| walk_at "M none") => `(tactic| fail "none")
local macro_rules | `(tactic| walk_at "M none") => `(tactic| fail "none")
local macro_rules | `(tactic| walk_at "M none") => `(tactic| fail "none")
local macro_rules | `(tactic| walk_at "M none") => `(tactic| fail "none")
local macro_rules | `(tactic| walk_at "M none") => `(tactic| fail "none")
local macro_rules | `(tactic| walk_at "M none") => `(tactic| fail "none")
local macro_rules | `(tactic| walk_at "M none") => `(tactic| fail "none")
local macro_rules | `(tactic| walk_at "M none") => `(tactic| fail "none")
local macro_rules | `(tactic| walk_at "M none") => `(tactic| fail "none")
local macro_rules | `(tactic| walk_at "M none") => `(tactic| fail "none")
local macro_rules | `(tactic| walk_at "M none") => `(tactic| fail "none")
local macro_rules | `(tactic| walk_at "M none") => `(tactic| fail "none")
local macro_rules | `(tactic| walk_at "M none") => `(tactic| fail "none")
local macro_rules | `(tactic| walk_at "M none") => `(tactic| fail "none")
local macro_rules | `(tactic| walk_at "M none") => `(tactic| fail "none")
local macro_rules | `(tactic| walk_at "M none") => `(tactic| fail "none")
local macro_rules | `(tactic| walk_at "M none") => `(tactic| fail "none")
local macro_rules | `(tactic| walk_at "M none") => `(tactic| fail "none")
local macro_rules | `(tactic| walk_at "M none") => `(tactic| fail "none")
local macro_rules | `(tactic| walk_at "M none") => `(tactic| fail "none")
local macro_rules | `(tactic| walk_at "M none") => `(tactic| fail "none")
local macro_rules | `(tactic| walk_at "M none") => `(tactic| fail "none")
local macro_rules | `(tactic| walk_at "M none") => `(tactic| fail "none")
local macro_rules | `(tactic| walk_at "M none") => `(tactic| fail "none")
local macro_rules | `(tactic| walk_at "M none") => `(tactic| fail "none")
local macro_rules | `(tactic| walk_at "M none") => `(tactic| fail "none")
local macro_rules | `(tactic| walk_at "M none") => `(tactic| fail "none")
local macro_rules | `(tactic| walk_at "M none") => `(tactic| fail "none")
local macro_rules | `(tactic| walk_at "M none") => `(tactic| fail "none")
local macro_rules | `(tactic| walk_at "M none") => `(tactic| fail "none")
local macro_rules | `(tactic| walk_at "M none") => `(tactic| fail "none")
local macro_rules | `(tactic| walk_at "M none") => `(tactic| fail "none")
local macro_rules | `(tactic| walk_at "M none") => `(tactic| fail "none")
local macro_rules | `(tactic| walk_at "M none") => `(tactic| fail "none")
local macro_rules | `(tactic| walk_at "M none") => `(tactic| fail "none")
local macro_rules | `(tactic| walk_at "M none") => `(tactic| fail "none")
local macro_rules | `(tactic| walk_at "M none") => `(tactic| fail "none")
local macro_rules | `(tactic| walk_at "M none") => `(tactic| fail "none")
local macro_rules | `(tactic| walk_at "M none") => `(tactic| fail "none")
local macro_rules | `(tactic| walk_at "M none") => `(tactic| fail "none")
local macro_rules | `(tactic| walk_at "M none") => `(tactic| fail "none")
local macro_rules | `(tactic| walk_at "M none") => `(tactic| fail "none")
local macro_rules | `(tactic| walk_at "M none") => `(tactic| fail "none")
local macro_rules | `(tactic| walk_at "M none") => `(tactic| fail "none")
local macro_rules | `(tactic| walk_at "M none") => `(tactic| fail "none")
local macro_rules | `(tactic| walk_at "M none") => `(tactic| fail "none")
local macro_rules | `(tactic| walk_at "M none") => `(tactic| fail "none")
local macro_rules | `(tactic| walk_at "M none") => `(tactic| fail "none")
local macro_rules | `(tactic| walk_at "M none") => `(tactic| fail "none")
local macro_rules | `(tactic| k_all) => `(tactic| assumption)
local macro_rules | `(tactic| walk_at "M enter") => `(tactic| (refine wpAny_call ?_; k_dflt (refine' code_def ?k1 ?k2 ?k3 ?k4 ?k5 ?kA ?kF ?kK ?k6 ?k7 ?k8 ?k9 ?kB ?_ ?c2 ?c3 ?c4 ?c5; (case kA => first | assumption | exact rfl); (case kF => assumption); (case kK => assumption); (case k1 => k_asm); (case k2 => k_asm); (case k3 => k_asm); (case k4 => k_asm); (case k5 => k_asm); (case k6 => k_is); (case k7 => k_is); (case k8 => first | omega | (dsimp only; omega)); (case k9 => exact BindsTo.of_eq rfl); (case c5 => decide); (case kB => exact locs rfl); (case c2 => exact rfl); (case c3 => exact rfl); (case c4 => exact rfl); k_whole)))
local macro_rules | `(tactic| walk_at "M enterT") => `(tactic| (refine wpAny_call ?_; k_dflt (refine' code_defT ?k1 ?k2 ?k3 ?k4 ?k5 ?kA ?kF ?kK ?k6 ?k7 ?k8 ?k9 ?kB ?_ ?c2 ?c3 ?c4 ?c5; (case kA => first | assumption | exact rfl); (case kF => assumption); (case kK => assumption); (case k1 => k_asm); (case k2 => k_asm); (case k3 => k_asm); (case k4 => k_asm); (case k5 => k_asm); (case k6 => k_is); (case k7 => k_is); (case k8 => first | omega | (dsimp only; omega)); (case k9 => exact BindsTo.of_eq rfl); (case c5 => decide); (case kB => exact locs rfl); (case c2 => exact rfl); (case c3 => exact rfl); (case c4 => exact rfl); k_whole)))
local macro_rules | `(tactic| walk_at "M open") => `(tactic| (rename Around => A9; rename (Around.frames _ = _) => hA9; rename (Around.handled _ = _) => hh9; revert hA9 hh9; rename (Around.depth _ + _ < _) => hd9; revert hd9; rename (Around.units _ + _ < _) => hu9; revert hu9; cases A9; dsimp only; intro hu9 hd9 hA9 hh9; subst hA9; subst hh9))
local macro_rules | `(tactic| walk_at "M noloop") => `(tactic| ((fail_if_success (with_reducible show wpAny _ _ (exec (Stmt.While _ _ _ _) _) _ _ _)); (fail_if_success (with_reducible show wpAny _ _ (exec (Stmt.For _ _ _ _ _) _) _ _ _)); (fail_if_success (with_reducible show LCg.CompSrc _ _ _ _ _ _ _ _ _ _ _ _ _ _)); (fail_if_success (with_reducible show wpAny _ _ (eval (PySem.Expr.ListComp _ _ _ _) _) _ _ _)); (fail_if_success (with_reducible show wpAny _ _ _ (fun it s₂ => PairAt3 _ _ _ _ _ _ _ _ _ _ it s₂) _ _))))
local macro_rules | `(tactic| walk_at "M go") => `(tactic| repeat' (walk_at "M noloop"; first | (k_unfold; (try dsimp only)) | (k_end; kc_close) | walk1 | (dsimp only; walk1) | (leave1; walk_say "STEP leave1"; (try dsimp only)) | fail "no step"))
local macro_rules | `(tactic| walk_at "And") => `(tactic| ((with_reducible show PySem.Str.length (_ ++ _) ≤ sizeLine ∧ wpAny _ _ (joinParts _ _) _ _ _); refine fs_and (by (simp only [len_mk, show Str.length Str.empty = 0 from rfl] at *); omega) ?_; intro zF hzF))
local macro_rules | `(tactic| walk_at "joinParts") => `(tactic| (first | (with_reducible show wpAny _ _ (joinParts _ []) _ _ _) | (with_reducible refine joinParts_nilE ?_)); refine fs_nil (by (simp only [len_mk, show Str.length Str.empty = 0 from rfl] at *); omega) ?_)
local macro_rules | `(tactic| walk_at "M enterC") => `(tactic| (refine wpAny_call ?_; k_dflt (refine' code_defC ?k1 ?k2 ?k3 ?k4 ?k5 ?kA ?kF ?kK ?k6 ?k7 ?k8 ?k9 ?kB ?kD ?_ ?c2 ?c3 ?c4; (case kA => first | assumption | exact rfl); (case kF => assumption); (case kK => assumption); (case k1 => k_asm); (case k2 => k_asm); (case k3 => k_asm); (case k4 => k_asm); (case k5 => k_asm); (case k6 => k_is); (case k7 => k_is); (case k8 => first | omega | (dsimp only; omega)); (case k9 => exact BindsTo.of_eq rfl); (case kB => exact rfl); (case kD => decide +kernel); (case c2 => exact rfl); (case c3 => exact rfl); (case c4 => exact rfl); k_whole)))
local macro_rules | `(tactic| walk_at "M next") => `(tactic| (k_here; (with_reducible show wpAny _ _ (call (Value.ref 105) [Value.ref _, Value.int _ _]) _ _ _); k_dflt (refine' next_u ?B ?F ?X ?N ?T ?hA ?hf ?hke ?hh ?hd ?hu ?hst ?hos ?U ?hsc ?m0 ?m1 ?_; (case hA => exact rfl); (case hf => exact rfl); (case hke => exact rfl); (case hh => exact rfl); (case B => k_asm); (case F => k_asm); (case X => k_asm); (case N => k_asm); (case T => k_asm); (case hst => assumption); (case hos => assumption); (case U => k_updF); (case hsc => k_mem); (case hd => ktr_room); (case hu => ktr_units); (case m0 => omega); (case m1 => omega)); intro r9 t9 o9 h9 tk9 hr0 hr1 hst9 F9 N9; (try dsimp only at N9)))
local macro_rules | `(tactic| walk_at "call ref") => `(tactic| (k_here; (with_reducible show wpAny _ _ (call (Value.ref 81) [Value.int _ _]) _ _ _); k_dflt (refine' letter_i ?B ?F ?X ?N ?T ?hA ?hf ?hke ?hh ?hd ?hu ?h0 ?h1 ?_; (case hA => exact rfl); (case hf => exact rfl); (case hke => exact rfl); (case hh => exact rfl); (case B => k_asm); (case F => k_asm); (case X => k_asm); (case N => k_asm); (case T => k_asm); (case hd => ktr_room); (case hu => ktr_units); (case h0 => omega); (case h1 => omega)); intro t9 h9 tk9 F9 N9))
local macro_rules | `(tactic| walk_at "call ref") => `(tactic| (k_here; (with_reducible show wpAny _ _ (call (Value.ref 91) [Value.str _ _]) _ _ _); k_dflt (refine' index_v ?B ?F ?X ?N ?T ?XB ?TB ?hA ?hf ?hke ?hh ?hd ?hu ?hx ?hux ?hul ?hv ?_; (case hA => exact rfl); (case hf => exact rfl); (case hke => exact rfl); (case hh => exact rfl); (case B => k_asm); (case F => k_asm); (case X => k_asm); (case N => k_asm); (case T => k_asm); (case XB => assumption); (case TB => assumption); (case hx => omega); (case hux => assumption); (case hul => assumption); (case hv => assumption); (case hd => ktr_room); (case hu => ktr_units)); intro t9 h9 tk9 F9 N9))
theorem interval_s {w : World} {p : Program} {loose : List Str} {mean : ExcName → Option Value} {mg mb : Str → Option Value}
    {A A₀ : Around} {env : Env} {outer : List Env} {base h₀ : Heap} {L : Addr} {m : Str → Option Value} {news : List (Addr × Obj)} {s : Shared}
    {Q E : Value → Shared → Prop} {x ux z uz : List Nat} {a n : Nat} {b : Int} {t t2 : Tok}
    (B : Below A₀ base outer h₀) (F : Fr h₀ L s.heap m) (X : (Mine.hd.heap_39 w.params).In h₀)
    (N : News h₀ L s.heap news) (T : Top p loose mean mg mb h₀) (XB : (Mine.hd.heap_39 w.params).In base) (TB : Top p loose mean mg mb base)
    (hA : A.frames = some (env :: outer)) (hf : env.frame = some L) (hke : env.scope.kind = .function) (hh : A.handled = none)
    (hd : A.depth + 20 < recursionLimit) (hu : A.units + 160 < cLine) (hx : x.length ≤ 4) (hux : Txt.upper ⟨x.toArray⟩ = ⟨ux.toArray⟩) (hul : ux.length = x.length) (hvx : numV ux x.length = some (a : Int)) (hz : z.length ≤ 4) (huz : Txt.upper ⟨z.toArray⟩ = ⟨uz.toArray⟩) (hzl : uz.length = z.length) (hvz : numV uz z.length = some b) (ha : 1 ≤ a) (hb : b + 1 = (a + n : Nat)) (hn : a + n ≤ 18279) (hn8 : n ≤ 8)
    (hret : ∀ D us h' tk', StrsAre us ((List.range n).map fun i => (⟨(lettersL 5 (a + i)).toArray⟩ : Str)) → Fr h₀ L h' m → News h₀ L h' ((D, listOf us.toArray us.length) :: news) → (∀ p ∈ news, p.1 ≠ D) → Q (.ref D) { s with heap := h', toks := tk' }) :
    wpAny (model PySem.Challenge.rw_ez0207_01.row.prog w) A (call (.ref 59) [.str ⟨x.toArray⟩ t, .str ⟨z.toArray⟩ t2]) Q E s := by
  obtain ⟨hnd, dp, frs, gds, un⟩ := A
  dsimp only at hA hh hd hu
  subst hA hh
  walk_at "M enter"
  intro g' L' h' FG' F' N' B' X' T'
  dsimp only
  clear hf hke B F X T N
  replace F' : Fr g' L' h' (fun y => List.lookup y [(Str.ofString "end", .str ⟨z.toArray⟩ t2), (Str.ofString "start", .str ⟨x.toArray⟩ t)]) := F'
  walk_at "M go"
  rename (Fr g' L' _ _) => F1
  rename (News g' L' _ _) => N1
  refine LCg.ListComp_U F1 rfl (by decide) rfl (by decide) rfl ?_
  walk_at "M go"
  rename_i hr F1 N1 _
  refine LCg.CompSrc.range (n := n) rfl F1 N1 hr (small_one (by omega) (by omega) (by omega) (by omega)) (by rw [rangeSize_nat]; omega) (by rw [sizeLine_eq]; omega) (fun g => ?_)
  refine comp_ind (fun i ys nw => nw = news ∧ StrsAre ys ((List.range i).map fun i => (⟨(lettersL 5 (a + i)).toArray⟩ : Str))) ⟨rfl, .nil⟩ ?_ ?_
  · rintro i ys news' hi ⟨rfl, hs⟩ v I oI C oC D m₂ h tk E' ⟨tv, rfl⟩ hC hm F2 N2 off ne
    walk_at "M go"
    rename (Fr g' L' _ _) => F9
    rename (News g' L' _ _) => N9
    refine LCg.CompEnd.intro F9 N9 _ (fun _ h => h) off trivial ⟨rfl, ?_⟩
    rw [show ((a : Int) + (i : Int)).toNat = a + i by omega, List.range_succ, List.map_append]
    exact kct_snoc hs
  · rintro ys news' ⟨rfl, hs⟩
    intro D h tk F2 N2 off
    refine leaveK_ F2 N2 ?_
    intro F9 N9
    exact hret D ys _ _ hs F9 N9 (off1_ne off)
end
section
theorem off_T2 : True := by
  w_top off
  trivial
local macro_rules | `(tactic| k_all) => `(tactic| assumption)
local macro_rules | `(tactic| walk_at "M enter") => `(tactic| (refine wpAny_call ?_; k_dflt (refine' code_def ?k1 ?k2 ?k3 ?k4 ?k5 ?kA ?kF ?kK ?k6 ?k7 ?k8 ?k9 ?kB ?_ ?c2 ?c3 ?c4 ?c5; (case kA => first | assumption | exact rfl); (case kF => assumption); (case kK => assumption); (case k1 => k_asm); (case k2 => k_asm); (case k3 => k_asm); (case k4 => k_asm); (case k5 => k_asm); (case k6 => k_is); (case k7 => k_is); (case k8 => first | omega | (dsimp only; omega)); (case k9 => exact BindsTo.of_eq rfl); (case c5 => decide); (case kB => exact locs rfl); (case c2 => exact rfl); (case c3 => exact rfl); (case c4 => exact rfl); k_whole)))
local macro_rules | `(tactic| walk_at "M enterT") => `(tactic| (refine wpAny_call ?_; k_dflt (refine' code_defT ?k1 ?k2 ?k3 ?k4 ?k5 ?kA ?kF ?kK ?k6 ?k7 ?k8 ?k9 ?kB ?_ ?c2 ?c3 ?c4 ?c5; (case kA => first | assumption | exact rfl); (case kF => assumption); (case kK => assumption); (case k1 => k_asm); (case k2 => k_asm); (case k3 => k_asm); (case k4 => k_asm); (case k5 => k_asm); (case k6 => k_is); (case k7 => k_is); (case k8 => first | omega | (dsimp only; omega)); (case k9 => exact BindsTo.of_eq rfl); (case c5 => decide); (case kB => exact locs rfl); (case c2 => exact rfl); (case c3 => exact rfl); (case c4 => exact rfl); k_whole)))
local macro_rules | `(tactic| walk_at "M open") => `(tactic| (rename Around => A9; rename (Around.frames _ = _) => hA9; rename (Around.handled _ = _) => hh9; revert hA9 hh9; rename (Around.depth _ + _ < _) => hd9; revert hd9; rename (Around.units _ + _ < _) => hu9; revert hu9; cases A9; dsimp only; intro hu9 hd9 hA9 hh9; subst hA9; subst hh9))
local macro_rules | `(tactic| walk_at "M noloop") => `(tactic| ((fail_if_success (with_reducible show wpAny _ _ (exec (Stmt.While _ _ _ _) _) _ _ _)); (fail_if_success (with_reducible show wpAny _ _ (exec (Stmt.For _ _ _ _ _) _) _ _ _)); (fail_if_success (with_reducible show LCg.CompSrc _ _ _ _ _ _ _ _ _ _ _ _ _ _)); (fail_if_success (with_reducible show wpAny _ _ (eval (PySem.Expr.ListComp _ _ _ _) _) _ _ _)); (fail_if_success (with_reducible show wpAny _ _ _ (fun it s₂ => PairAt3 _ _ _ _ _ _ _ _ _ _ it s₂) _ _))))
local macro_rules | `(tactic| walk_at "M go") => `(tactic| repeat' (walk_at "M noloop"; first | (k_unfold; (try dsimp only)) | (k_end; kc_close) | walk1 | (dsimp only; walk1) | (leave1; walk_say "STEP leave1"; (try dsimp only)) | fail "no step"))
local macro_rules | `(tactic| walk_at "And") => `(tactic| ((with_reducible show PySem.Str.length (_ ++ _) ≤ sizeLine ∧ wpAny _ _ (joinParts _ _) _ _ _); refine fs_and (by (simp only [len_mk, show Str.length Str.empty = 0 from rfl] at *); omega) ?_; intro zF hzF))
local macro_rules | `(tactic| walk_at "joinParts") => `(tactic| (first | (with_reducible show wpAny _ _ (joinParts _ []) _ _ _) | (with_reducible refine joinParts_nilE ?_)); refine fs_nil (by (simp only [len_mk, show Str.length Str.empty = 0 from rfl] at *); omega) ?_)
local macro_rules | `(tactic| walk_at "M enterC") => `(tactic| (refine wpAny_call ?_; k_dflt (refine' code_defC ?k1 ?k2 ?k3 ?k4 ?k5 ?kA ?kF ?kK ?k6 ?k7 ?k8 ?k9 ?kB ?kD ?_ ?c2 ?c3 ?c4; (case kA => first | assumption | exact rfl); (case kF => assumption); (case kK => assumption); (case k1 => k_asm); (case k2 => k_asm); (case k3 => k_asm); (case k4 => k_asm); (case k5 => k_asm); (case k6 => k_is); (case k7 => k_is); (case k8 => first | omega | (dsimp only; omega)); (case k9 => exact BindsTo.of_eq rfl); (case kB => exact rfl); (case kD => decide +kernel); (case c2 => exact rfl); (case c3 => exact rfl); (case c4 => exact rfl); k_whole)))
local macro_rules | `(tactic| walk_at "M next") => `(tactic| (k_here; (with_reducible show wpAny _ _ (call (Value.ref 105) [Value.ref _, Value.int _ _]) _ _ _); k_dflt (refine' next_u ?B ?F ?X ?N ?T ?hA ?hf ?hke ?hh ?hd ?hu ?hst ?hos ?U ?hsc ?m0 ?m1 ?_; (case hA => exact rfl); (case hf => exact rfl); (case hke => exact rfl); (case hh => exact rfl); (case B => k_asm); (case F => k_asm); (case X => k_asm); (case N => k_asm); (case T => k_asm); (case hst => assumption); (case hos => assumption); (case U => k_updF); (case hsc => k_mem); (case hd => ktr_room); (case hu => ktr_units); (case m0 => omega); (case m1 => omega)); intro r9 t9 o9 h9 tk9 hr0 hr1 hst9 F9 N9; (try dsimp only at N9)))
local macro_rules | `(tactic| walk_at "call ref") => `(tactic| (k_here; (with_reducible show wpAny _ _ (call (Value.ref 66) [Value.str _ _]) _ _ _); k_dflt (refine' coord_c ?B ?F ?X ?N ?T ?hA ?hf ?hke ?hh ?hd ?hu ?hx ?hdd ?_ ?_; (case hA => exact rfl); (case hf => exact rfl); (case hke => exact rfl); (case hh => exact rfl); (case B => k_asm); (case F => k_asm); (case X => k_asm); (case N => k_asm); (case T => k_asm); (case hx => assumption); (case hdd => assumption); (case hd => ktr_room); (case hu => ktr_units)); intro hv9 D9 h9 t91 t92 tk9 F9 N9 l9; rotate_left; intro hv9 G9 e9 t9 vs9 h9 tk9 F9 S9 U9; rotate_left))
theorem told66_c {w : World} {p : Program} {loose : List Str} {mean : ExcName → Option Value} {mg mb : Str → Option Value}
    {A A₀ : Around} {env : Env} {base h₀ : Heap} {L : Addr} {m : Str → Option Value} {news : List (Addr × Obj)} {s : Shared}
    {Q E : Value → Shared → Prop} {a b : Bool} {x d : List Nat} {t : Tok}
    (B : Below A₀ base [] h₀) (F : Fr h₀ L s.heap m) (X : (Mine.hd.heap_39 w.params).In h₀)
    (N : News h₀ L s.heap news) (T : Top p loose mean mg mb h₀) (XB : (Mine.hd.heap_39 w.params).In base) (TB : Top p loose mean mg mb base)
    (hA : A.frames = some [env]) (hf : env.frame = some L) (hke : env.scope.kind = .function) (hh : A.handled = none)
    (hd : A.depth + 20 < recursionLimit) (hu : A.units + 160 < cLine) (hx : Letters x) (hdd : Digits d)
    (hret : 0 < NumText.digitsVal d → ∀ D h' t1 t2 tk', Fr h₀ L h' m → News h₀ L h' ((D, pairO (.str ⟨x.toArray⟩ t1) (.int ((NumText.digitsVal d : Nat) : Int) t2)) :: news) → (∀ p ∈ news, p.1 < D) → Q (.ref D) { s with heap := h', toks := tk' })
    (hnone : NumText.digitsVal d = 0 → ∀ h' tk', Fr h₀ L h' m → News h₀ L h' news → Q .none { s with heap := h', toks := tk' }) :
    wpAny (model PySem.Challenge.rw_ez0207_01.row.prog w) A (call (.ref 126) [.ref 66, .str ⟨(placeL a b x d).toArray⟩ t]) Q E s := by
  obtain ⟨hnd, dp, frs, gds, un⟩ := A
  dsimp only at hA hh hd hu
  subst hA hh
  walk_at "M enterT"
  intro g' L' h' FG' F' N' B' X' T' D'
  dsimp only
  clear hf hke B F X T N
  replace F' : Fr g' L' h' (fun y => List.lookup y [(Str.ofString "one", .str ⟨(placeL a b x d).toArray⟩ t), (Str.ofString "deed", .ref 66)]) := F'
  walk_at "M go"
  · rename (Fr g' L' _ _) => F1
    rename (News g' L' _ _) => N1
    rename (∀ p ∈ news, p.1 < _) => l1
    rename (0 < NumText.digitsVal d) => hv
    refine leaveS0_ F1 N1 KtsTurn.refl ?_
    intro F9 N9
    exact hret hv _ _ _ _ _ F9 N9 l1
  · rename (NumText.digitsVal d = 0) => hv
    rename (KtsTurn _ g' _) => T1
    rename (Fr _ L' _ _) => F1
    rename (News _ L' _ news) => N1
    refine leaveS0_ F1 N1 T1 ?_
    intro F9 N9
    exact hnone hv _ _ F9 N9
local macro_rules | `(tactic| walk_at "call ref") => `(tactic| (k_here; (with_reducible show wpAny _ _ (call (Value.ref 66) [Value.str _ _]) _ _ _); k_dflt (refine' coord_f ?B ?F ?X ?N ?T ?hA ?hf ?hke ?hh ?hd ?hu ?hx ?hxl ?_; (case hA => exact rfl); (case hf => exact rfl); (case hke => exact rfl); (case hh => exact rfl); (case B => k_asm); (case F => k_asm); (case X => k_asm); (case N => k_asm); (case T => k_asm); (case hx => assumption); (case hxl => omega); (case hd => ktr_room); (case hu => ktr_units)); intro G9 e9 t9 vs9 h9 tk9 F9 S9 U9))
theorem told66_f {w : World} {p : Program} {loose : List Str} {mean : ExcName → Option Value} {mg mb : Str → Option Value}
    {A A₀ : Around} {env : Env} {base h₀ : Heap} {L : Addr} {m : Str → Option Value} {news : List (Addr × Obj)} {s : Shared}
    {Q E : Value → Shared → Prop} {x : List Nat} {t : Tok}
    (B : Below A₀ base [] h₀) (F : Fr h₀ L s.heap m) (X : (Mine.hd.heap_39 w.params).In h₀)
    (N : News h₀ L s.heap news) (T : Top p loose mean mg mb h₀) (XB : (Mine.hd.heap_39 w.params).In base) (TB : Top p loose mean mg mb base)
    (hA : A.frames = some [env]) (hf : env.frame = some L) (hke : env.scope.kind = .function) (hh : A.handled = none)
    (hd : A.depth + 20 < recursionLimit) (hu : A.units + 160 < cLine) (hx : NoPlace x) (hxl : x.length ≤ 16)
    (hnone : ∀ h' tk', Fr h₀ L h' m → News h₀ L h' news → Q .none { s with heap := h', toks := tk' }) :
    wpAny (model PySem.Challenge.rw_ez0207_01.row.prog w) A (call (.ref 126) [.ref 66, .str ⟨x.toArray⟩ t]) Q E s := by
  obtain ⟨hnd, dp, frs, gds, un⟩ := A
  dsimp only at hA hh hd hu
  subst hA hh
  walk_at "M enterT"
  intro g' L' h' FG' F' N' B' X' T' D'
  dsimp only
  clear hf hke B F X T N
  replace F' : Fr g' L' h' (fun y => List.lookup y [(Str.ofString "one", .str ⟨x.toArray⟩ t), (Str.ofString "deed", .ref 66)]) := F'
  walk_at "M go"
  rename (KtsTurn _ g' _) => T1
  rename (Fr _ L' _ _) => F1
  rename (News _ L' _ news) => N1
  refine leaveS0_ F1 N1 T1 ?_
  intro F9 N9
  exact hnone _ _ F9 N9
end
section
theorem off_T3 : True := by
  w_top off
  trivial
local macro_rules | `(tactic| walk_at "M none") => `(tactic| fail "none")
local macro_rules | `(tactic| walk_at "M none") => `(tactic| fail "none")
local macro_rules | `(tactic| walk_at "M none") => `(tactic| fail "none")
local macro_rules | `(tactic| walk_at "M none") => `(tactic| fail "none")
local macro_rules | `(tactic| walk_at "M none") => `(tactic| fail "none")
local macro_rules | `(tactic| walk_at "M none") => `(tactic| fail "none")
local macro_rules | `(tactic| walk_at "M none") => `(tactic| fail "none")
local macro_rules | `(tactic| walk_at "M none") => `(tactic| fail "none")
local macro_rules | `(tactic| walk_at "M none") => `(tactic| fail "none")
local macro_rules | `(tactic| walk_at "M none") => `(tactic| fail "none")
local macro_rules | `(tactic| walk_at "M none") => `(tactic| fail "none")
local macro_rules | `(tactic| walk_at "M none") => `(tactic| fail "none")
local macro_rules | `(tactic| walk_at "M none") => `(tactic| fail "none")
local macro_rules | `(tactic| walk_at "M none") => `(tactic| fail "none")
local macro_rules | `(tactic| walk_at "M none") => `(tactic| fail "none")
local macro_rules | `(tactic| walk_at "M none") => `(tactic| fail "none")
local macro_rules | `(tactic| walk_at "M none") => `(tactic| fail "none")
local macro_rules | `(tactic| walk_at "M none") => `(tactic| fail "none")
local macro_rules | `(tactic| walk_at "M none") => `(tactic| fail "none")
local macro_rules | `(tactic| walk_at "M none") => `(tactic| fail "none")
local macro_rules | `(tactic| walk_at "M none") => `(tactic| fail "none")
local macro_rules | `(tactic| walk_at "M none") => `(tactic| fail "none")
local macro_rules | `(tactic| walk_at "M none") => `(tactic| fail "none")
local macro_rules | `(tactic| walk_at "M none") => `(tactic| fail "none")
local macro_rules | `(tactic| walk_at "M none") => `(tactic| fail "none")
local macro_rules | `(tactic| walk_at "M none") => `(tactic| fail "none")
local macro_rules | `(tactic| walk_at "M none") => `(tactic| fail "none")
local macro_rules | `(tactic| walk_at "M none") => `(tactic| fail "none")
local macro_rules | `(tactic| walk_at "M none") => `(tactic| fail "none")
local macro_rules | `(tactic| walk_at "M none") => `(tactic| fail "none")
local macro_rules | `(tactic| k_all) => `(tactic| assumption)
local macro_rules | `(tactic| walk_at "M enter") => `(tactic| (refine wpAny_call ?_; k_dflt (refine' code_def ?k1 ?k2 ?k3 ?k4 ?k5 ?kA ?kF ?kK ?k6 ?k7 ?k8 ?k9 ?kB ?_ ?c2 ?c3 ?c4 ?c5; (case kA => first | assumption | exact rfl); (case kF => assumption); (case kK => assumption); (case k1 => k_asm); (case k2 => k_asm); (case k3 => k_asm); (case k4 => k_asm); (case k5 => k_asm); (case k6 => k_is); (case k7 => k_is); (case k8 => first | omega | (dsimp only; omega)); (case k9 => exact BindsTo.of_eq rfl); (case c5 => decide); (case kB => exact locs rfl); (case c2 => exact rfl); (case c3 => exact rfl); (case c4 => exact rfl); k_whole)))
local macro_rules | `(tactic| walk_at "M enterT") => `(tactic| (refine wpAny_call ?_; k_dflt (refine' code_defT ?k1 ?k2 ?k3 ?k4 ?k5 ?kA ?kF ?kK ?k6 ?k7 ?k8 ?k9 ?kB ?_ ?c2 ?c3 ?c4 ?c5; (case kA => first | assumption | exact rfl); (case kF => assumption); (case kK => assumption); (case k1 => k_asm); (case k2 => k_asm); (case k3 => k_asm); (case k4 => k_asm); (case k5 => k_asm); (case k6 => k_is); (case k7 => k_is); (case k8 => first | omega | (dsimp only; omega)); (case k9 => exact BindsTo.of_eq rfl); (case c5 => decide); (case kB => exact locs rfl); (case c2 => exact rfl); (case c3 => exact rfl); (case c4 => exact rfl); k_whole)))
local macro_rules | `(tactic| walk_at "M open") => `(tactic| (rename Around => A9; rename (Around.frames _ = _) => hA9; rename (Around.handled _ = _) => hh9; revert hA9 hh9; rename (Around.depth _ + _ < _) => hd9; revert hd9; rename (Around.units _ + _ < _) => hu9; revert hu9; cases A9; dsimp only; intro hu9 hd9 hA9 hh9; subst hA9; subst hh9))
local macro_rules | `(tactic| walk_at "M noloop") => `(tactic| ((fail_if_success (with_reducible show wpAny _ _ (exec (Stmt.While _ _ _ _) _) _ _ _)); (fail_if_success (with_reducible show wpAny _ _ (exec (Stmt.For _ _ _ _ _) _) _ _ _)); (fail_if_success (with_reducible show LCg.CompSrc _ _ _ _ _ _ _ _ _ _ _ _ _ _)); (fail_if_success (with_reducible show wpAny _ _ (eval (PySem.Expr.ListComp _ _ _ _) _) _ _ _)); (fail_if_success (with_reducible show wpAny _ _ _ (fun it s₂ => PairAt3 _ _ _ _ _ _ _ _ _ _ it s₂) _ _))))
local macro_rules | `(tactic| walk_at "M go") => `(tactic| repeat' (walk_at "M noloop"; first | (k_unfold; (try dsimp only)) | (k_end; kc_close) | walk1 | (dsimp only; walk1) | (leave1; walk_say "STEP leave1"; (try dsimp only)) | fail "no step"))
local macro_rules | `(tactic| walk_at "And") => `(tactic| ((with_reducible show PySem.Str.length (_ ++ _) ≤ sizeLine ∧ wpAny _ _ (joinParts _ _) _ _ _); refine fs_and (by (simp only [len_mk, show Str.length Str.empty = 0 from rfl] at *); omega) ?_; intro zF hzF))
local macro_rules | `(tactic| walk_at "joinParts") => `(tactic| (first | (with_reducible show wpAny _ _ (joinParts _ []) _ _ _) | (with_reducible refine joinParts_nilE ?_)); refine fs_nil (by (simp only [len_mk, show Str.length Str.empty = 0 from rfl] at *); omega) ?_)
local macro_rules | `(tactic| walk_at "M enterC") => `(tactic| (refine wpAny_call ?_; k_dflt (refine' code_defC ?k1 ?k2 ?k3 ?k4 ?k5 ?kA ?kF ?kK ?k6 ?k7 ?k8 ?k9 ?kB ?kD ?_ ?c2 ?c3 ?c4; (case kA => first | assumption | exact rfl); (case kF => assumption); (case kK => assumption); (case k1 => k_asm); (case k2 => k_asm); (case k3 => k_asm); (case k4 => k_asm); (case k5 => k_asm); (case k6 => k_is); (case k7 => k_is); (case k8 => first | omega | (dsimp only; omega)); (case k9 => exact BindsTo.of_eq rfl); (case kB => exact rfl); (case kD => decide +kernel); (case c2 => exact rfl); (case c3 => exact rfl); (case c4 => exact rfl); k_whole)))
local macro_rules | `(tactic| walk_at "M next") => `(tactic| (k_here; (with_reducible show wpAny _ _ (call (Value.ref 105) [Value.ref _, Value.int _ _]) _ _ _); k_dflt (refine' next_u ?B ?F ?X ?N ?T ?hA ?hf ?hke ?hh ?hd ?hu ?hst ?hos ?U ?hsc ?m0 ?m1 ?_; (case hA => exact rfl); (case hf => exact rfl); (case hke => exact rfl); (case hh => exact rfl); (case B => k_asm); (case F => k_asm); (case X => k_asm); (case N => k_asm); (case T => k_asm); (case hst => assumption); (case hos => assumption); (case U => k_updF); (case hsc => k_mem); (case hd => ktr_room); (case hu => ktr_units); (case m0 => omega); (case m1 => omega)); intro r9 t9 o9 h9 tk9 hr0 hr1 hst9 F9 N9; (try dsimp only at N9)))
theorem field_man {prog : Program} {w : World} {A : Around} {E : Value → Shared → Prop} {s : Shared} {id : String} {a : Array Value} {byName : Str → Sem Value} {v : Value} {Q : Value × Builtin.Str.Numbering → Shared → Prop} (ha : a[0]? = some v) (h : Q (v, .manual) s) :
    wpAny (model prog w) A (Builtin.Str.fieldObject id (some a) byName [48] .unset) Q E s := by
  unfold Builtin.Str.fieldObject
  refine wpAny_bind (wpAny_of_eq (a := some 0) rfl ?_)
  refine wpAny_bind (wpAny_of_eq (a := (some 0, .manual)) rfl ?_)
  simp only [ha, pure_bind]
  rw [KPc.range_list]
  exact wpAny_bind (wpAny_pure (wpAny_pure h))
local macro_rules | `(tactic| kfm_turns) => `(tactic| (refine KPc.turn ?_; kpc_if; first
  | kfm_close
  | (kpc_check; refine wpAny_bind (field_man (by rfl) ?_); refine wpAny_bind (wpAny_holding (wpAny_of_eq (a := _) rfl ?_)); kpc_if; refine wpAny_bind (wpAny_pure ?_); kfm_val; refine wpAny_bind (wpAny_of_eq (a := some _) rfl ?_); refine wpAny_pure ?_; refine KFm.after_field (by kpc_g) (by kpc_text) (by kpc_obj) (by kfm_len) (by kpc_obj) (by kfm_cat2) (by kfm_rest) ?_; intro _ _; kfm_turns)
  | (kpc_check; kfm_lit; kfm_turns)))
local macro_rules | `(tactic| walk_at "leaving ref") => `(tactic| (k_here; (refine' leave_newS ?k1 ?k0 ?k2 ?k3 ?_; (case k0 => assumption); (case k2 => assumption); (case k1 => assumption); (case k3 => k_asm); k_whole; intro h' S' R' U'; (try dsimp only at S' R' U' ⊢))))
theorem letter_r {w : World} {p : Program} {loose : List Str} {mean : ExcName → Option Value} {mg mb : Str → Option Value}
    {A A₀ : Around} {env : Env} {outer : List Env} {base h₀ : Heap} {L : Addr} {m : Str → Option Value} {news : List (Addr × Obj)} {s : Shared}
    {Q E : Value → Shared → Prop} {k : Int} {t : Tok}
    (B : Below A₀ base outer h₀) (F : Fr h₀ L s.heap m) (X : (Mine.hd.heap_39 w.params).In h₀)
    (N : News h₀ L s.heap news) (T : Top p loose mean mg mb h₀)
    (hA : A.frames = some (env :: outer)) (hf : env.frame = some L) (hke : env.scope.kind = .function) (hh : A.handled = none)
    (hd : A.depth + 10 < recursionLimit) (hu : A.units + 80 < cLine) (hk : k < 1 ∨ 18278 < k) (hk0 : -1 ≤ k) (hk1 : k ≤ 20000)
    (hraise : ∀ G e h' tk', Fr h₀ L G m → RaisedSN base G (env :: outer) e (.type "ValueError") news h' → G.UpToSlots h' → E (.ref e) { s with heap := h', toks := tk' }) :
    wpAny (model PySem.Challenge.rw_ez0207_01.row.prog w) A (call (.ref 81) [.int k t]) Q E s := by
  obtain ⟨hnd, dp, frs, gds, un⟩ := A
  dsimp only at hA hh hd hu
  subst hA hh
  walk_at "M enter"
  intro g' L' h' FG' F' N' B' X' T'
  dsimp only
  clear hf hke B F X T N
  replace F' : Fr g' L' h' (fun y => List.lookup y [(Str.ofString "col_idx", .int k t)]) := F'
  rcases (show k = 0 ∨ k = -1 ∨ 18278 < k by omega) with rfl | rfl | hk9
  all_goals walk_at "M go"
  all_goals (rename_i S9 R9 U9; exact hraise _ _ _ _ FG' S9 U9)
local macro_rules | `(tactic| walk_at "call ref") => `(tactic| (k_here; (with_reducible show wpAny _ _ (call (Value.ref 81) [Value.int _ _]) _ _ _); k_dflt (refine' letter_i ?B ?F ?X ?N ?T ?hA ?hf ?hke ?hh ?hd ?hu ?h0 ?h1 ?_; (case hA => exact rfl); (case hf => exact rfl); (case hke => exact rfl); (case hh => exact rfl); (case B => k_asm); (case F => k_asm); (case X => k_asm); (case N => k_asm); (case T => k_asm); (case h0 => omega); (case h1 => omega); (case hd => ktr_room); (case hu => ktr_units)); intro t9 h9 tk9 F9 N9))
local macro_rules | `(tactic| walk_at "call ref") => `(tactic| (k_here; (with_reducible show wpAny _ _ (call (Value.ref 81) [Value.int _ _]) _ _ _); k_dflt (refine' letter_r ?B ?F ?X ?N ?T ?hA ?hf ?hke ?hh ?hd ?hu ?h0 ?h1 ?h2 ?_; (case hA => exact rfl); (case hf => exact rfl); (case hke => exact rfl); (case hh => exact rfl); (case B => k_asm); (case F => k_asm); (case X => k_asm); (case N => k_asm); (case T => k_asm); (case h0 => omega); (case h1 => omega); (case h2 => omega); (case hd => ktr_room); (case hu => ktr_units)); intro G9 e9 h9 tk9 F9 S9 U9))
theorem told81_c {w : World} {p : Program} {loose : List Str} {mean : ExcName → Option Value} {mg mb : Str → Option Value}
    {A A₀ : Around} {env : Env} {base h₀ : Heap} {L : Addr} {m : Str → Option Value} {news : List (Addr × Obj)} {s : Shared}
    {Q E : Value → Shared → Prop} {k : Int} {t : Tok}
    (B : Below A₀ base [] h₀) (F : Fr h₀ L s.heap m) (X : (Mine.hd.heap_39 w.params).In h₀)
    (N : News h₀ L s.heap news) (T : Top p loose mean mg mb h₀) (XB : (Mine.hd.heap_39 w.params).In base) (TB : Top p loose mean mg mb base)
    (hA : A.frames = some [env]) (hf : env.frame = some L) (hke : env.scope.kind = .function) (hh : A.handled = none)
    (hd : A.depth + 20 < recursionLimit) (hu : A.units + 160 < cLine) (hk0 : -1 ≤ k) (hk1 : k ≤ 20000)
    (hret : ∀ v h' tk', (1 ≤ k ∧ k ≤ 18278 → ∃ t, v = .str ⟨(lettersL 5 k.toNat).toArray⟩ t) → (¬ (1 ≤ k ∧ k ≤ 18278) → v = .none) → Fr h₀ L h' m → News h₀ L h' news → Q v { s with heap := h', toks := tk' }) :
    wpAny (model PySem.Challenge.rw_ez0207_01.row.prog w) A (call (.ref 126) [.ref 81, .int k t]) Q E s := by
  obtain ⟨hnd, dp, frs, gds, un⟩ := A
  dsimp only at hA hh hd hu
  subst hA hh
  walk_at "M enterT"
  intro g' L' h' FG' F' N' B' X' T' D'
  dsimp only
  clear hf hke B F X T N
  replace F' : Fr g' L' h' (fun y => List.lookup y [(Str.ofString "one", .int k t), (Str.ofString "deed", .ref 81)]) := F'
  by_cases hk : 1 ≤ k ∧ k ≤ 18278
  · obtain ⟨ha, hb⟩ := hk
    walk_at "M go"
    rename (Fr g' L' _ _) => F1
    rename (News g' L' _ _) => N1
    refine leaveS0_ F1 N1 KtsTurn.refl ?_
    intro F9 N9
    exact hret _ _ _ (fun _ => ⟨_, rfl⟩) (fun q => absurd ⟨ha, hb⟩ q) F9 N9
  · have hk2 : k < 1 ∨ 18278 < k := by omega
    walk_at "M go"
    rename (KtsTurn _ g' _) => T1
    rename (Fr _ L' _ _) => F1
    rename (News _ L' _ news) => N1
    refine leaveS0_ F1 N1 T1 ?_
    intro F9 N9
    exact hret _ _ _ (fun q => absurd q hk) (fun _ => rfl) F9 N9
end
section
theorem off_V2 : True := by
  w_top off
  trivial
local macro_rules | `(tactic| walk_at "M none") => `(tactic| fail "none")
local macro_rules | `(tactic| walk_at "M none") => `(tactic| fail "none")
local macro_rules | `(tactic| walk_at "M none") => `(tactic| fail "none")
local macro_rules | `(tactic| walk_at "M none") => `(tactic| fail "none")
local macro_rules | `(tactic| walk_at "M none") => `(tactic| fail "none")
local macro_rules | `(tactic| walk_at "M none") => `(tactic| fail "none")
local macro_rules | `(tactic| walk_at "M none") => `(tactic| fail "none")
local macro_rules | `(tactic| walk_at "M none") => `(tactic| fail "none")
local macro_rules | `(tactic| walk_at "M none") => `(tactic| fail "none")
local macro_rules | `(tactic| walk_at "M none") => `(tactic| fail "none")
local macro_rules | `(tactic| walk_at "M none") => `(tactic| fail "none")
local macro_rules | `(tactic| walk_at "M none") => `(tactic| fail "none")
local macro_rules | `(tactic| walk_at "M none") => `(tactic| fail "none")
local macro_rules | `(tactic| walk_at "M none") => `(tactic| fail "none")
local macro_rules | `(tactic| walk_at "M none") => `(tactic| fail "none")
local macro_rules | `(tactic| walk_at "M none") => `(tactic| fail "none")
local macro_rules | `(tactic| walk_at "M none") => `(tactic| fail "none")
local macro_rules | `(tactic| walk_at "M none") => `(tactic| fail "none")
local macro_rules | `(tactic| walk_at "M none") => `(tactic| fail "none")
local macro_rules | `(tactic| walk_at "M none") => `(tactic| fail "none")
local macro_rules | `(tactic| walk_at "M none") => `(tactic| fail "none")
local macro_rules | `(tactic| walk_at "M none") => `(tactic| fail "none")
local macro_rules | `(tactic| walk_at "M none") => `(tactic| fail "none")
local macro_rules | `(tactic| walk_at "M none") => `(tactic| fail "none")
local macro_rules | `(tactic| walk_at "M none") => `(tactic| fail "none")
local macro_rules | `(tactic| walk_at "M none") => `(tactic| fail "none")
local macro_rules | `(tactic| walk_at "M none") => `(tactic| fail "none")
local macro_rules | `(tactic| walk_at "M none") => `(tactic| fail "none")
local macro_rules | `(tactic| walk_at "M none") => `(tactic| fail "none")
local macro_rules | `(tactic| walk_at "M none") => `(tactic| fail "none")
local macro_rules | `(tactic| walk_at "M none") => `(tactic| fail "none")
local macro_rules | `(tactic| walk_at "M none") => `(tactic| fail "none")
local macro_rules | `(tactic| walk_at "M none") => `(tactic| fail "none")
local macro_rules | `(tactic| walk_at "M none") => `(tactic| fail "none")
local macro_rules | `(tactic| walk_at "M none") => `(tactic| fail "none")
local macro_rules | `(tactic| walk_at "M none") => `(tactic| fail "none")
local macro_rules | `(tactic| walk_at "M none") => `(tactic| fail "none")
local macro_rules | `(tactic| walk_at "M none") => `(tactic| fail "none")
local macro_rules | `(tactic| walk_at "M none") => `(tactic| fail "none")
local macro_rules | `(tactic| walk_at "M none") => `(tactic| fail "none")
local macro_rules | `(tactic| walk_at "M none") => `(tactic| fail "none")
local macro_rules | `(tactic| walk_at "M none") => `(tactic| fail "none")
local macro_rules | `(tactic| walk_at "M none") => `(tactic| fail "none")
local macro_rules | `(tactic| walk_at "M none") => `(tactic| fail "none")
local macro_rules | `(tactic| walk_at "M none") => `(tactic| fail "none")
local macro_rules | `(tactic| walk_at "M none") => `(tactic| fail "none")
local macro_rules | `(tactic| walk_at "M none") => `(tactic| fail "none")
local macro_rules | `(tactic| walk_at "M none") => `(tactic| fail "none")
local macro_rules | `(tactic| walk_at "M none") => `(tactic| fail "none")
local macro_rules | `(tactic| walk_at "M none") => `(tactic| fail "none")
local macro_rules | `(tactic| walk_at "M none") => `(tactic| fail "none")
local macro_rules | `(tactic| walk_at "M none") => `(tactic| fail "none")
local macro_rules | `(tactic| walk_at "M none") => `(tactic| fail "none")
local macro_rules | `(tactic| walk_at "M none") => `(tactic| fail "none")
local macro_rules | `(tactic| walk_at "M none") => `(tactic| fail "none")
local macro_rules | `(tactic| walk_at "M none") => `(tactic| fail "none")
local macro_rules | `(tactic| walk_at "M none") => `(tactic| fail "none")
local macro_rules | `(tactic| walk_at "M none") => `(tactic| fail "none")
local macro_rules | `(tactic| walk_at "M none") => `(tactic| fail "none")
local macro_rules | `(tactic| walk_at "M none") => `(tactic| fail "none")
local macro_rules | `(tactic| k_all) => `(tactic| assumption)
local macro_rules | `(tactic| walk_at "M enter") => `(tactic| (refine wpAny_call ?_; k_dflt (refine' code_def ?k1 ?k2 ?k3 ?k4 ?k5 ?kA ?kF ?kK ?k6 ?k7 ?k8 ?k9 ?kB ?_ ?c2 ?c3 ?c4 ?c5; (case kA => first | assumption | exact rfl); (case kF => assumption); (case kK => assumption); (case k1 => k_asm); (case k2 => k_asm); (case k3 => k_asm); (case k4 => k_asm); (case k5 => k_asm); (case k6 => k_is); (case k7 => k_is); (case k8 => first | omega | (dsimp only; omega)); (case k9 => exact BindsTo.of_eq rfl); (case c5 => decide); (case kB => exact locs rfl); (case c2 => exact rfl); (case c3 => exact rfl); (case c4 => exact rfl); k_whole)))
local macro_rules | `(tactic| walk_at "M enterT") => `(tactic| (refine wpAny_call ?_; k_dflt (refine' code_defT ?k1 ?k2 ?k3 ?k4 ?k5 ?kA ?kF ?kK ?k6 ?k7 ?k8 ?k9 ?kB ?_ ?c2 ?c3 ?c4 ?c5; (case kA => first | assumption | exact rfl); (case kF => assumption); (case kK => assumption); (case k1 => k_asm); (case k2 => k_asm); (case k3 => k_asm); (case k4 => k_asm); (case k5 => k_asm); (case k6 => k_is); (case k7 => k_is); (case k8 => first | omega | (dsimp only; omega)); (case k9 => exact BindsTo.of_eq rfl); (case c5 => decide); (case kB => exact locs rfl); (case c2 => exact rfl); (case c3 => exact rfl); (case c4 => exact rfl); k_whole)))
local macro_rules | `(tactic| walk_at "M open") => `(tactic| (rename Around => A9; rename (Around.frames _ = _) => hA9; rename (Around.handled _ = _) => hh9; revert hA9 hh9; rename (Around.depth _ + _ < _) => hd9; revert hd9; rename (Around.units _ + _ < _) => hu9; revert hu9; cases A9; dsimp only; intro hu9 hd9 hA9 hh9; subst hA9; subst hh9))
local macro_rules | `(tactic| walk_at "M noloop") => `(tactic| ((fail_if_success (with_reducible show wpAny _ _ (exec (Stmt.While _ _ _ _) _) _ _ _)); (fail_if_success (with_reducible show wpAny _ _ (exec (Stmt.For _ _ _ _ _) _) _ _ _)); (fail_if_success (with_reducible show LCg.CompSrc _ _ _ _ _ _ _ _ _ _ _ _ _ _)); (fail_if_success (with_reducible show wpAny _ _ (eval (PySem.Expr.ListComp _ _ _ _) _) _ _ _)); (fail_if_success (with_reducible show wpAny _ _ _ (fun it s₂ => PairAt3 _ _ _ _ _ _ _ _ _ _ it s₂) _ _))))
local macro_rules | `(tactic| walk_at "M go") => `(tactic| repeat' (walk_at "M noloop"; first | (k_unfold; (try dsimp only)) | (k_end; kc_close) | walk1 | (dsimp only; walk1) | (leave1; walk_say "STEP leave1"; (try dsimp only)) | fail "no step"))
local macro_rules | `(tactic| walk_at "And") => `(tactic| ((with_reducible show PySem.Str.length (_ ++ _) ≤ sizeLine ∧ wpAny _ _ (joinParts _ _) _ _ _); refine fs_and (by (simp only [len_mk, show Str.length Str.empty = 0 from rfl] at *); omega) ?_; intro zF hzF))
local macro_rules | `(tactic| walk_at "joinParts") => `(tactic| (first | (with_reducible show wpAny _ _ (joinParts _ []) _ _ _) | (with_reducible refine joinParts_nilE ?_)); refine fs_nil (by (simp only [len_mk, show Str.length Str.empty = 0 from rfl] at *); omega) ?_)
local macro_rules | `(tactic| walk_at "M enterC") => `(tactic| (refine wpAny_call ?_; k_dflt (refine' code_defC ?k1 ?k2 ?k3 ?k4 ?k5 ?kA ?kF ?kK ?k6 ?k7 ?k8 ?k9 ?kB ?kD ?_ ?c2 ?c3 ?c4; (case kA => first | assumption | exact rfl); (case kF => assumption); (case kK => assumption); (case k1 => k_asm); (case k2 => k_asm); (case k3 => k_asm); (case k4 => k_asm); (case k5 => k_asm); (case k6 => k_is); (case k7 => k_is); (case k8 => first | omega | (dsimp only; omega)); (case k9 => exact BindsTo.of_eq rfl); (case kB => exact rfl); (case kD => decide +kernel); (case c2 => exact rfl); (case c3 => exact rfl); (case c4 => exact rfl); k_whole)))
local macro_rules | `(tactic| walk_at "M next") => `(tactic| (k_here; (with_reducible show wpAny _ _ (call (Value.ref 105) [Value.ref _, Value.int _ _]) _ _ _); k_dflt (refine' next_u ?B ?F ?X ?N ?T ?hA ?hf ?hke ?hh ?hd ?hu ?hst ?hos ?U ?hsc ?m0 ?m1 ?_; (case hA => exact rfl); (case hf => exact rfl); (case hke => exact rfl); (case hh => exact rfl); (case B => k_asm); (case F => k_asm); (case X => k_asm); (case N => k_asm); (case T => k_asm); (case hst => assumption); (case hos => assumption); (case U => k_updF); (case hsc => k_mem); (case hd => ktr_room); (case hu => ktr_units); (case m0 => omega); (case m1 => omega)); intro r9 t9 o9 h9 tk9 hr0 hr1 hst9 F9 N9; (try dsimp only at N9)))
section
variable {prog : Program} {w : World} {A : Around} {E : Value → Shared → Prop} {s : Shared} {env : Env} {h₀ : Heap} {L : Addr} {m : Str → Option Value} {news : List (Addr × Obj)}
def ItemPost (prog : Program) (w : World) (h₀ : Heap) (L : Addr) (s : Shared) (I d : Addr) (iO : Obj) (n ep : Nat) (news : List (Addr × Obj)) (Jn : (Str → Option Value) → List (Str × Value) → Prop) (f : Flow) (s₃ : Shared) : Prop :=
  f = .next ∧ ∃ h' tk' m' kvs' od', s₃ = { s with heap := h', toks := tk' } ∧ Fr h₀ L h' m' ∧ News h₀ L h' ((I, iO) :: (d, od') :: news) ∧ DictE prog w od' kvs' ep ∧ kvs'.length = n ∧ Jn m' kvs'
theorem ItemPost.intro {Jn : (Str → Option Value) → List (Str × Value) → Prop} {I d : Addr} {iO od' : Obj} {n ep tk' : Nat} {h' : Heap} {m' : Str → Option Value} {kvs' : List (Str × Value)} (F : Fr h₀ L h' m') (N : News h₀ L h' ((I, iO) :: (d, od') :: news)) (hd : DictE prog w od' kvs' ep) (hl : kvs'.length = n) (hJ : Jn m' kvs') :
    ItemPost prog w h₀ L s I d iO n ep news Jn .next { s with heap := h', toks := tk' } := ⟨rfl, h', tk', m', kvs', od', rfl, F, N, hd, hl, hJ⟩
def ItemsAt (prog : Program) (w : World) (A : Around) (h₀ : Heap) (env : Env) (elts : List PySem.Expr) (x1 : Nat) (pt : Pos) (body : List Stmt) (Q : Flow → Shared → Prop) (E : Value → Shared → Prop) (it : Value) (s : Shared) : Prop :=
  ∃ (I d : Addr) (n ep : Nat) (m₀ : Str → Option Value) (news : List (Addr × Obj)) (od : Obj) (kvs₀ : List (Str × Value)) (ok₀ ov₀ : Value) (J : Nat → (Str → Option Value) → List (Str × Value) → Prop), it = .ref I ∧ A.handled = none ∧ d ≠ I ∧ (∀ p ∈ news, p.1 ≠ I) ∧
    Fr h₀ env.locals s.heap m₀ ∧ News h₀ env.locals s.heap ((I, itO d 0 n ep ok₀ ov₀) :: (d, od) :: news) ∧ DictE prog w od kvs₀ ep ∧ kvs₀.length = n ∧ J 0 m₀ kvs₀ ∧
    (∀ i m kvs od T key k x h tk iO, i < n → J i m kvs → kvs.length = n → kvs[i]? = some (k, x) → DictE prog w od kvs ep → (strKind prog w).is k key = true → h.IsTuple T #[key, x] → Fr h₀ env.locals h m → News h₀ env.locals h ((I, iO) :: (d, od) :: news) →
      wpAny (model prog w) A (assign (.Tuple elts x1 pt) env (.ref T)) (fun _ s₂ => wpAny (model prog w) A (execs body env) (ItemPost prog w h₀ env.locals s I d iO n ep news (J (i + 1))) E s₂) E { s with heap := h, toks := tk }) ∧
    (∀ h tk m kvs od, Fr h₀ env.locals h m → News h₀ env.locals h ((d, od) :: news) → DictE prog w od kvs ep → J n m kvs → Q .next { s with heap := h, toks := tk })
theorem For_itemsD {elts : List PySem.Expr} {x1 : Nat} {pt pos : Pos} {iter : PySem.Expr} {body : List Stmt} {Q : Flow → Shared → Prop}
    (h : wpAny (model prog w) A (eval iter env) (fun xv s₁ => wpAny (model prog w) A (pyIter xv) (fun it s₂ => ItemsAt prog w A h₀ env elts x1 pt body Q E it s₂) E s₁) E s)
    (hs : ∀ x, foldedSetIterable iter env x = pure x := by intro _; rfl) (hE : PassesOwn (model prog w) A env E := by passes_own) :
    wpAny (model prog w) A (exec (.For (.Tuple elts x1 pt) iter body [] pos) env) Q E s := by
  refine wpAny_For (wpAny_mono h (fun xv s₁ h₁ => wpAny_mono h₁ (fun it s₂ h₂ => ?_) fun _ _ e => e) fun _ _ e => e) hs
  obtain ⟨I, d, n, ep, m₀, news, od, kvs₀, ok₀, ov₀, J, rfl, hh, hdI, hnI, F, N, hd, hn, h0, turn, fin⟩ := h₂
  exact items_loop (R := fun r s' => match r with | .ok f => Q f s' | .error e => cameBackBy (model prog w) A env E e s') hh hdI hnI F N hd hn J h0
    (fun i m kvs od T key k x h tk iO a b c d e f g p q => wpAny_mono (turn i m kvs od T key k x h tk iO a b c d e f g p q) (fun _ _ x => wpAny_passesOwn hE x) hE) fin
theorem iter_itemsD {I₀ d : Addr} {od : Obj} {kvs : List (Str × Value)} {Q : Value → Shared → Prop} (F : Fr h₀ L s.heap m) (N : News h₀ L s.heap ((d, od) :: news)) (hd : od.IsDictOf (strKind prog w) kvs)
    (hv : ∃ ov, s.heap.get? I₀ = some ov ∧ ov.cls = .type "dict_items" ∧ ov.data = .fields #[.ref d])
    (h : ∀ I h' ep, DictE prog w od kvs ep → Fr h₀ L h' m → News h₀ L h' ((I, itO d 0 kvs.length ep .none .none) :: (d, od) :: news) → d ≠ I → (∀ p ∈ news, p.1 ≠ I) → Q (.ref I) { s with heap := h' }) : wpAny (model prog w) A (pyIter (.ref I₀)) Q E s := by
  obtain ⟨ep, hE⟩ := DictE.ofIs hd
  have nD := N _ (.head _)
  refine wpAny_pyIter_items hv (hE.at nD.1) ?_
  exact h _ _ ep hE (F.push _) (News.push F N (itO d 0 kvs.length ep .none .none)) (Nat.ne_of_lt (Heap.lt_size nD.1)) fun p hp => Nat.ne_of_lt (Heap.lt_size (N p (.tail _ hp)).1)
theorem pat54 {pl : Sem Bool} {Q : Value × List Value → Shared → Prop} (F : Fr h₀ L s.heap m) (X₀ : (Mine.hd.heap_39 w.params).In h₀) (h : Q (.builtin "re.Pattern.match", [.ref 54]) s) : wpAny (model prog w) A (getMethod (.ref 54) "match" pl) Q E s := by
  obtain ⟨op, fs, t6, t2, hl, hc, hd, _⟩ := abs_obj w.params
  exact getMethod_pat ((X₀.keeps F.keep) _ _ hl) hc hd h
def absS (a b : Bool) (x d : List Nat) : List Int := [0, ((placeL a b x d).length : Nat), ((mk1 a).length : Nat), ((mk1 a).length + x.length : Nat), ((mk1 a).length + x.length + (mk1 b).length : Nat), ((mk1 a).length + x.length + (mk1 b).length + d.length : Nat), -1, -1, -1, -1, -1, -1]
theorem match54_hit {a b : Bool} {x d : List Nat} {t : Tok} {Q : Value → Shared → Prop} (F : Fr h₀ L s.heap m) (X₀ : (Mine.hd.heap_39 w.params).In h₀) (N : News h₀ L s.heap news) (hx : Letters x) (hd : Digits d)
    (h : ∀ S M h', Fr h₀ L h' m → News h₀ L h' ((M, matchO 54 S (.str ⟨(placeL a b x d).toArray⟩ t) (placeL a b x d).length) :: (S, spansO (absS a b x d)) :: news) →
      (∀ p ∈ news, p.1 < S) → S < M → Q (.ref M) { s with heap := h' }) : wpAny (model prog w) A (call (.builtin "re.Pattern.match") [.ref 54, .str ⟨(placeL a b x d).toArray⟩ t]) Q E s := by
  obtain ⟨op, fs, t6, t2, hl, hc, _, hdt, h6, h2, h5, _⟩ := abs_obj w.params
  obtain ⟨oc, items, n, hcl, hcd, hit⟩ := abs_code w.params
  refine pat_match_gen ((X₀.keeps F.keep) _ _ hl) hc hdt h6 h2 h5 ((X₀.keeps F.keep) _ _ hcl) hcd hit (Nat.le_trans (placeL_le hx hd) (by omega)) ?_
  refine answer_hit5 9 (by omega) (abs_hit (a := a) (b := b) hx hd) (by omega) (by omega) ⟨_, rfl, ?_⟩
  refine h _ _ _ ((F.push (spansO (absS a b x d))).push _) (News.push (F.push (spansO (absS a b x d))) (News.push F N (spansO (absS a b x d))) _) (fun p hp => Heap.lt_size (N p hp).1) ?_
  rw [Heap.size_push]
  exact Nat.lt_succ_self _
theorem groupdict54 {M S : Addr} {a b : Bool} {x d : List Nat} {t td : Tok} {rest : List (Addr × Obj)} {Q : Value → Shared → Prop} (F : Fr h₀ L s.heap m) (X₀ : (Mine.hd.heap_39 w.params).In h₀) (N : News h₀ L s.heap ((M, matchO 54 S (.str ⟨(placeL a b x d).toArray⟩ t) (placeL a b x d).length) :: (S, spansO (absS a b x d)) :: rest))
    (hx : Letters x) (hd : Digits d) (hbig : h₀.NoLimit) (h : ∀ D od h' t1 t2 tk', (D == sysModules) = false → Fr h₀ L h' m → News h₀ L h' ((D, od) :: rest) → od.IsDictOf (strKind prog w) [(Str.ofString "min_col", .str ⟨x.toArray⟩ t1), (Str.ofString "min_row", .str ⟨d.toArray⟩ t2), (Str.ofString "max_col", .str (Str.ofString "") td), (Str.ofString "max_row", .str (Str.ofString "") td)] →
      (∀ p ∈ rest, p.1 < D) → Q (.ref D) { s with heap := h', toks := tk' }) :
    wpAny (model prog w) A (call (.builtin "re.Match.groupdict") [.ref M, .str (Str.ofString "") td]) Q E s := by
  refine call_groupdict (D₀ := 0) (td := td) (X₀.keeps F.keep) (N _ (.head _)).1 (N _ (.tail _ (.head _))).1 (Nat.le_trans (placeL_le hx hd) (by omega)) fun h' tk t1 t2 hD hk => ?_
  rw [place_col, place_row] at hD
  obtain ⟨od, ho, hI⟩ := Heap.dictOf_iff.mp hD
  refine h _ od h' t1 t2 tk (F.notModules (modules_low hbig)) (F.keeps hk) (fun p hp => ?_) hI fun p hp => Heap.lt_size (N p (.tail _ (.tail _ hp))).1
  rcases List.mem_cons.mp hp with rfl | hp
  · exact ⟨ho, Nat.ne_of_gt F.ns.lt, none_at_size F⟩
  · exact ⟨hk _ _ (N p (.tail _ (.tail _ hp))).1, (N p (.tail _ (.tail _ hp))).2⟩
end
theorem fs_andZ {M : Model} {A : Around} {E : Value → Shared → Prop} {s : Shared} {acc y : Str} {parts : List (Sem Value)} {Q : Value → Shared → Prop}
    (hl : acc.length + y.length ≤ 10000000) (h : ∀ z : Str, z = acc ++ y → z.length = acc.length + y.length → wpAny M A (joinParts z parts) Q E s) : Str.length (acc ++ y) ≤ sizeLine ∧ wpAny M A (joinParts (acc ++ y) parts) Q E s :=
  ⟨by rw [Str.length_append, sizeLine_eq]; omega, h _ rfl (Str.length_append _ _)⟩
theorem dollar (x : List Nat) : (Str.empty ++ Str.ofString "$") ++ (⟨x.toArray⟩ : Str) = ⟨(36 :: x).toArray⟩ := by
  show (⟨(#[] ++ (Str.ofString "$").cps) ++ x.toArray⟩ : Str) = _
  rw [show (Str.ofString "$").cps = #[36] by decide]
  congr 1
  apply Array.toList_inj.mp
  simp
theorem cat_two (x y : List Nat) : (Str.empty ++ (⟨x.toArray⟩ : Str)) ++ (⟨y.toArray⟩ : Str) = ⟨(x ++ y).toArray⟩ := by
  show (⟨(#[] ++ x.toArray) ++ y.toArray⟩ : Str) = _
  congr 1
  apply Array.toList_inj.mp
  simp
def absKv (x y : List Nat) (t1 t2 td : Tok) : List (Str × Value) := [(Str.ofString "min_col", .str ⟨x.toArray⟩ t1), (Str.ofString "min_row", .str ⟨y.toArray⟩ t2), (Str.ofString "max_col", .str (Str.ofString "") td), (Str.ofString "max_row", .str (Str.ofString "") td)]
theorem absKv_set0 (x y z : List Nat) (t1 t2 t3 td : Tok) : stored (absKv x y t1 t2 td) (Str.ofString "min_col") (.str ⟨z.toArray⟩ t3) = absKv z y t3 t2 td := by rfl
theorem absKv_set1 (x y z : List Nat) (t1 t2 t3 td : Tok) : stored (absKv x y t1 t2 td) (Str.ofString "min_row") (.str ⟨z.toArray⟩ t3) = absKv x z t1 t3 td := by rfl
section
variable {prog : Program} {w : World} {A : Around} {E : Value → Shared → Prop} {s : Shared} {h₀ : Heap} {L : Addr} {m : Str → Option Value}
theorem setE2 {I d : Addr} {iO o : Obj} {rest : List (Addr × Obj)} {kvs : List (Str × Value)} {ep : Nat} {k : Str} {t : Tok} {v : Value} {Q : Unit → Shared → Prop} (F : Fr h₀ L s.heap m) (N : News h₀ L s.heap ((I, iO) :: (d, o) :: rest)) (hI : d ≠ I) (hr : ∀ p ∈ rest, p.1 < d) (hd : DictE prog w o kvs ep) (hin : k ∈ kvs.map (·.1))
    (h : ∀ h' o', Fr h₀ L h' m → News h₀ L h' ((I, iO) :: (d, o') :: rest) → DictE prog w o' (stored kvs k v) ep → Q () { s with heap := h', toks := s.toks + 1 }) : wpAny (model prog w) A (setItem (.ref d) (.str k t) v) Q E s := by
  have nD := N (d, o) (.tail _ (.head _))
  have hT : s.TypeIs (.ref d) "dict" := by
    obtain ⟨es, hc, _⟩ := hd
    exact ⟨o, nD.1, hc.1⟩
  unfold setItem
  refine wpAny_holding ?_
  refine wpAny_bind (wpAny_sequenceKey hT (by decide) ?_)
  refine wpAny_bind (wpAny_callSpecial?_slot (name := Str.ofString "__setitem__") hT slot_dict_setitem
    (wpAny_call_entry slot_dict_setitem hT entry_dict_setitem ?_ (args_dict_setitem _ _ _)))
  show wpAny _ _ (Builtin.Dict.notOrdered "__setitem__" ⟨[.ref d, .str k t, v], []⟩ >>= _) _ _ s
  refine wpAny_bind (wpAny_notOrdered_dict hT ?_)
  show wpAny _ _ (dictSet d (.str k t) v >>= _) _ _ s
  refine wpAny_bind (hd.set nD.1 (strKind_is prog w k t) hin fun h' o' ho' hd' hs => ?_)
  refine wpAny_pure ⟨_, rfl, wpAny_pure (h h' o' ⟨F.ns.at' fun o e => (hs.2 _ fun q => nD.2.1 q.symm).trans e, fun b o e => (hs.2 b fun q => by rw [q, nD.2.2] at e; cases e).trans (F.keep b o e), F.above⟩ (fun p hp => ?_) hd')⟩
  rcases List.mem_cons.mp hp with rfl | hp
  · exact ⟨(hs.2 _ hI.symm).trans (N _ (.head _)).1, (N _ (.head _)).2⟩
  · rcases List.mem_cons.mp hp with rfl | hp
    · exact ⟨ho', nD.2⟩
    · have := N p (.tail _ (.tail _ hp))
      exact ⟨(hs.2 _ (Nat.ne_of_lt (hr p hp))).trans this.1, this.2⟩
end
section
variable {prog : Program} {w : World} {A : Around} {E : Value → Shared → Prop} {s : Shared} {h₀ : Heap} {L : Addr} {m : Str → Option Value} {news : List (Addr × Obj)}
theorem getE {value slice : PySem.Expr} {d : Addr} {o : Obj} {x y : List Nat} {t1 t2 td : Tok} {ep : Nat} {k : Str} {t : Tok} {v : Value} {Q : Value → Shared → Prop} (N : News h₀ L s.heap ((d, o) :: news)) (hd : DictE prog w o (absKv x y t1 t2 td) ep) (hv : valueAt (absKv x y t1 t2 td) k = some v)
    (h : Q v { s with toks := s.toks + 1 })
    (hs : subscripted slice false (.ref d) (.str k t) = operate [.ref d, .str k t] (getItem (.ref d) (.str k t)) := by with_unfolding_all rfl) :
    wpAny (model prog w) A (subscriptTail value slice (.ref d) (.str k t)) Q E s :=
  have hD := (hd.at (N _ (.head _)).1).dictOf
  tail_any hD.typeIs slot_dict_getitem.lookup (wpAny_getItem_of (strKind_is prog w k t) hD.mapOf hv h) hs
end
end
section
theorem off_V3 : True := by
  w_top off
  trivial
local macro_rules | `(tactic| walk_at "M none") => `(tactic| fail "none")
local macro_rules | `(tactic| walk_at "M none") => `(tactic| fail "none")
local macro_rules | `(tactic| walk_at "M none") => `(tactic| fail "none")
local macro_rules | `(tactic| walk_at "M none") => `(tactic| fail "none")
local macro_rules | `(tactic| walk_at "M none") => `(tactic| fail "none")
local macro_rules | `(tactic| walk_at "M none") => `(tactic| fail "none")
local macro_rules | `(tactic| walk_at "M none") => `(tactic| fail "none")
local macro_rules | `(tactic| walk_at "M none") => `(tactic| fail "none")
local macro_rules | `(tactic| walk_at "M none") => `(tactic| fail "none")
local macro_rules | `(tactic| walk_at "M none") => `(tactic| fail "none")
local macro_rules | `(tactic| walk_at "M none") => `(tactic| fail "none")
local macro_rules | `(tactic| walk_at "M none") => `(tactic| fail "none")
local macro_rules | `(tactic| walk_at "M none") => `(tactic| fail "none")
local macro_rules | `(tactic| walk_at "M none") => `(tactic| fail "none")
local macro_rules | `(tactic| walk_at "M none") => `(tactic| fail "none")
local macro_rules | `(tactic| walk_at "M none") => `(tactic| fail "none")
local macro_rules | `(tactic| walk_at "M none") => `(tactic| fail "none")
local macro_rules | `(tactic| walk_at "M none") => `(tactic| fail "none")
local macro_rules | `(tactic| walk_at "M none") => `(tactic| fail "none")
local macro_rules | `(tactic| walk_at "M none") => `(tactic| fail "none")
local macro_rules | `(tactic| walk_at "M none") => `(tactic| fail "none")
local macro_rules | `(tactic| walk_at "M none") => `(tactic| fail "none")
local macro_rules | `(tactic| walk_at "M none") => `(tactic| fail "none")
local macro_rules | `(tactic| walk_at "M none") => `(tactic| fail "none")
local macro_rules | `(tactic| walk_at "M none") => `(tactic| fail "none")
local macro_rules | `(tactic| walk_at "M none") => `(tactic| fail "none")
local macro_rules | `(tactic| walk_at "M none") => `(tactic| fail "none")
local macro_rules | `(tactic| walk_at "M none") => `(tactic| fail "none")
local macro_rules | `(tactic| walk_at "M none") => `(tactic| fail "none")
local macro_rules | `(tactic| walk_at "M none") => `(tactic| fail "none")
local macro_rules | `(tactic| walk_at "M none") => `(tactic| fail "none")
local macro_rules | `(tactic| walk_at "M none") => `(tactic| fail "none")
local macro_rules | `(tactic| walk_at "M none") => `(tactic| fail "none")
local macro_rules | `(tactic| walk_at "M none") => `(tactic| fail "none")
local macro_rules | `(tactic| walk_at "M none") => `(tactic| fail "none")
local macro_rules | `(tactic| walk_at "M none") => `(tactic| fail "none")
local macro_rules | `(tactic| walk_at "M none") => `(tactic| fail "none")
local macro_rules | `(tactic| walk_at "M none") => `(tactic| fail "none")
local macro_rules | `(tactic| walk_at "M none") => `(tactic| fail "none")
local macro_rules | `(tactic| walk_at "M none") => `(tactic| fail "none")
local macro_rules | `(tactic| walk_at "M none") => `(tactic| fail "none")
local macro_rules | `(tactic| walk_at "M none") => `(tactic| fail "none")
local macro_rules | `(tactic| walk_at "M none") => `(tactic| fail "none")
local macro_rules | `(tactic| walk_at "M none") => `(tactic| fail "none")
local macro_rules | `(tactic| walk_at "M none") => `(tactic| fail "none")
local macro_rules | `(tactic| walk_at "M none") => `(tactic| fail "none")
local macro_rules | `(tactic| walk_at "M none") => `(tactic| fail "none")
local macro_rules | `(tactic| walk_at "M none") => `(tactic| fail "none")
local macro_rules | `(tactic| walk_at "M none") => `(tactic| fail "none")
local macro_rules | `(tactic| walk_at "M none") => `(tactic| fail "none")
local macro_rules | `(tactic| walk_at "M none") => `(tactic| fail "none")
local macro_rules | `(tactic| walk_at "M none") => `(tactic| fail "none")
local macro_rules | `(tactic| walk_at "M none") => `(tactic| fail "none")
local macro_rules | `(tactic| walk_at "M none") => `(tactic| fail "none")
local macro_rules | `(tactic| walk_at "M none") => `(tactic| fail "none")
local macro_rules | `(tactic| walk_at "M none") => `(tactic| fail "none")
local macro_rules | `(tactic| walk_at "M none") => `(tactic| fail "none")
local macro_rules | `(tactic| walk_at "M none") => `(tactic| fail "none")
local macro_rules | `(tactic| walk_at "M none") => `(tactic| fail "none")
local macro_rules | `(tactic| walk_at "M none") => `(tactic| fail "none")
local macro_rules | `(tactic| walk_at "M none") => `(tactic| fail "none")
local macro_rules | `(tactic| walk_at "M none") => `(tactic| fail "none")
local macro_rules | `(tactic| walk_at "M none") => `(tactic| fail "none")
local macro_rules | `(tactic| walk_at "M none") => `(tactic| fail "none")
local macro_rules | `(tactic| walk_at "M none") => `(tactic| fail "none")
local macro_rules | `(tactic| walk_at "M none") => `(tactic| fail "none")
local macro_rules | `(tactic| walk_at "M none") => `(tactic| fail "none")
local macro_rules | `(tactic| walk_at "M none") => `(tactic| fail "none")
local macro_rules | `(tactic| walk_at "M none") => `(tactic| fail "none")
local macro_rules | `(tactic| walk_at "M none") => `(tactic| fail "none")
local macro_rules | `(tactic| walk_at "M none") => `(tactic| fail "none")
local macro_rules | `(tactic| walk_at "M none") => `(tactic| fail "none")
local macro_rules | `(tactic| walk_at "M none") => `(tactic| fail "none")
local macro_rules | `(tactic| walk_at "M none") => `(tactic| fail "none")
local macro_rules | `(tactic| walk_at "M none") => `(tactic| fail "none")
local macro_rules | `(tactic| walk_at "M none") => `(tactic| fail "none")
local macro_rules | `(tactic| walk_at "M none") => `(tactic| fail "none")
local macro_rules | `(tactic| walk_at "M none") => `(tactic| fail "none")
local macro_rules | `(tactic| walk_at "M none") => `(tactic| fail "none")
local macro_rules | `(tactic| walk_at "M none") => `(tactic| fail "none")
local macro_rules | `(tactic| walk_at "M none") => `(tactic| fail "none")
local macro_rules | `(tactic| walk_at "M none") => `(tactic| fail "none")
local macro_rules | `(tactic| walk_at "M none") => `(tactic| fail "none")
local macro_rules | `(tactic| walk_at "M none") => `(tactic| fail "none")
local macro_rules | `(tactic| walk_at "M none") => `(tactic| fail "none")
local macro_rules | `(tactic| walk_at "M none") => `(tactic| fail "none")
local macro_rules | `(tactic| walk_at "M none") => `(tactic| fail "none")
local macro_rules | `(tactic| walk_at "M none") => `(tactic| fail "none")
local macro_rules | `(tactic| walk_at "M none") => `(tactic| fail "none")
local macro_rules | `(tactic| walk_at "M none") => `(tactic| fail "none")
local macro_rules | `(tactic| k_all) => `(tactic| assumption)
local macro_rules | `(tactic| walk_at "M enter") => `(tactic| (refine wpAny_call ?_; k_dflt (refine' code_def ?k1 ?k2 ?k3 ?k4 ?k5 ?kA ?kF ?kK ?k6 ?k7 ?k8 ?k9 ?kB ?_ ?c2 ?c3 ?c4 ?c5; (case kA => first | assumption | exact rfl); (case kF => assumption); (case kK => assumption); (case k1 => k_asm); (case k2 => k_asm); (case k3 => k_asm); (case k4 => k_asm); (case k5 => k_asm); (case k6 => k_is); (case k7 => k_is); (case k8 => first | omega | (dsimp only; omega)); (case k9 => exact BindsTo.of_eq rfl); (case c5 => decide); (case kB => exact locs rfl); (case c2 => exact rfl); (case c3 => exact rfl); (case c4 => exact rfl); k_whole)))
local macro_rules | `(tactic| walk_at "M enterT") => `(tactic| (refine wpAny_call ?_; k_dflt (refine' code_defT ?k1 ?k2 ?k3 ?k4 ?k5 ?kA ?kF ?kK ?k6 ?k7 ?k8 ?k9 ?kB ?_ ?c2 ?c3 ?c4 ?c5; (case kA => first | assumption | exact rfl); (case kF => assumption); (case kK => assumption); (case k1 => k_asm); (case k2 => k_asm); (case k3 => k_asm); (case k4 => k_asm); (case k5 => k_asm); (case k6 => k_is); (case k7 => k_is); (case k8 => first | omega | (dsimp only; omega)); (case k9 => exact BindsTo.of_eq rfl); (case c5 => decide); (case kB => exact locs rfl); (case c2 => exact rfl); (case c3 => exact rfl); (case c4 => exact rfl); k_whole)))
local macro_rules | `(tactic| walk_at "M open") => `(tactic| (rename Around => A9; rename (Around.frames _ = _) => hA9; rename (Around.handled _ = _) => hh9; revert hA9 hh9; rename (Around.depth _ + _ < _) => hd9; revert hd9; rename (Around.units _ + _ < _) => hu9; revert hu9; cases A9; dsimp only; intro hu9 hd9 hA9 hh9; subst hA9; subst hh9))
local macro_rules | `(tactic| walk_at "M noloop") => `(tactic| ((fail_if_success (with_reducible show wpAny _ _ (exec (Stmt.While _ _ _ _) _) _ _ _)); (fail_if_success (with_reducible show wpAny _ _ (exec (Stmt.For _ _ _ _ _) _) _ _ _)); (fail_if_success (with_reducible show LCg.CompSrc _ _ _ _ _ _ _ _ _ _ _ _ _ _)); (fail_if_success (with_reducible show wpAny _ _ (eval (PySem.Expr.ListComp _ _ _ _) _) _ _ _)); (fail_if_success (with_reducible show wpAny _ _ _ (fun it s₂ => PairAt3 _ _ _ _ _ _ _ _ _ _ it s₂) _ _))))
local macro_rules | `(tactic| walk_at "M go") => `(tactic| repeat' (walk_at "M noloop"; first | (k_unfold; (try dsimp only)) | (k_end; kc_close) | walk1 | (dsimp only; walk1) | (leave1; walk_say "STEP leave1"; (try dsimp only)) | fail "no step"))
local macro_rules | `(tactic| walk_at "And") => `(tactic| ((with_reducible show PySem.Str.length (_ ++ _) ≤ sizeLine ∧ wpAny _ _ (joinParts _ _) _ _ _); refine fs_and (by (simp only [len_mk, show Str.length Str.empty = 0 from rfl] at *); omega) ?_; intro zF hzF))
local macro_rules | `(tactic| walk_at "joinParts") => `(tactic| (first | (with_reducible show wpAny _ _ (joinParts _ []) _ _ _) | (with_reducible refine joinParts_nilE ?_)); refine fs_nil (by (simp only [len_mk, show Str.length Str.empty = 0 from rfl] at *); omega) ?_)
local macro_rules | `(tactic| walk_at "M enterC") => `(tactic| (refine wpAny_call ?_; k_dflt (refine' code_defC ?k1 ?k2 ?k3 ?k4 ?k5 ?kA ?kF ?kK ?k6 ?k7 ?k8 ?k9 ?kB ?kD ?_ ?c2 ?c3 ?c4; (case kA => first | assumption | exact rfl); (case kF => assumption); (case kK => assumption); (case k1 => k_asm); (case k2 => k_asm); (case k3 => k_asm); (case k4 => k_asm); (case k5 => k_asm); (case k6 => k_is); (case k7 => k_is); (case k8 => first | omega | (dsimp only; omega)); (case k9 => exact BindsTo.of_eq rfl); (case kB => exact rfl); (case kD => decide +kernel); (case c2 => exact rfl); (case c3 => exact rfl); (case c4 => exact rfl); k_whole)))
local macro_rules | `(tactic| walk_at "M next") => `(tactic| (k_here; (with_reducible show wpAny _ _ (call (Value.ref 105) [Value.ref _, Value.int _ _]) _ _ _); k_dflt (refine' next_u ?B ?F ?X ?N ?T ?hA ?hf ?hke ?hh ?hd ?hu ?hst ?hos ?U ?hsc ?m0 ?m1 ?_; (case hA => exact rfl); (case hf => exact rfl); (case hke => exact rfl); (case hh => exact rfl); (case B => k_asm); (case F => k_asm); (case X => k_asm); (case N => k_asm); (case T => k_asm); (case hst => assumption); (case hos => assumption); (case U => k_updF); (case hsc => k_mem); (case hd => ktr_room); (case hu => ktr_units); (case m0 => omega); (case m1 => omega)); intro r9 t9 o9 h9 tk9 hr0 hr1 hst9 F9 N9; (try dsimp only at N9)))
local macro_rules | `(tactic| walk_at "truthy ref") => `(tactic| (k_here; k_dflt (refine' truthy_N ?k1 ?k2 ?_; (case k1 => k_asm); (case k2 => k_mem); k_whole)))
local macro_rules | `(tactic| walk_at "getMethod ref") => `(tactic| (k_here; (with_reducible show wpAny _ _ (getMethod (Value.ref 54) _ _) _ _ _); k_dflt (refine' pat54 ?k1 ?k2 ?_; (case k1 => k_asm); (case k2 => k_asm); k_whole)))
local macro_rules | `(tactic| walk_at "getMethod ref") => `(tactic| (k_here; k_dflt (refine' getMethod_groupdict_N ?k1 ?k2 ?_; (case k1 => k_asm); (case k2 => k_mem); k_whole)))
local macro_rules | `(tactic| walk_at "call builtin:re.Pattern.match") => `(tactic| (k_here; (with_reducible show wpAny _ _ (call _ [Value.ref 54, _]) _ _ _); k_dflt (refine' match54_hit ?k1 ?k2 ?k3 ?k4 ?k5 ?_; (case k1 => k_asm); (case k2 => k_asm); (case k3 => k_asm); (case k4 => assumption); (case k5 => assumption); k_whole); intro S9 M9 h9 F9 N9 l9 l9'))
local macro_rules | `(tactic| walk_at "call builtin:re.Match.groupdict") => `(tactic| (k_here; k_dflt (refine' groupdict54 ?k1 ?k2 ?k3 ?k4 ?k5 ?k6 ?_; (case k1 => k_asm); (case k2 => k_asm); (case k3 => k_asm); (case k4 => assumption); (case k5 => assumption); (case k6 => exact Top.nolimit (by k_asm)); k_whole); intro D9 od9 h9 t91 t92 tk9 lo9 F9 N9 I9 l9))
local macro_rules | `(tactic| walk_at "And") => `(tactic| ((with_reducible show PySem.Str.length (_ ++ _) ≤ sizeLine ∧ wpAny _ _ (joinParts _ _) _ _ _); refine fs_andZ (by (simp only [len_mk, show Str.length Str.empty = 0 from rfl] at *); omega) ?_; intro zF hzE hzF))
local macro_rules | `(tactic| walk_at "setItem ref str") => `(tactic| (k_here; k_dflt (refine' setE2 ?F ?N ?I ?r ?d ?i ?_; (case F => k_asm); (case N => k_asm); (case I => assumption); (case r => assumption); (case d => assumption); (case i => simp [absKv]); k_whole); intro h9 o9 F9 N9 E9))
local macro_rules | `(tactic| walk_at "subscriptTail") => `(tactic| (k_here; (with_reducible show wpAny _ _ (subscriptTail _ _ (Value.ref _) (Value.str _ _)) _ _ _); (with_unfolding_all refine' getE ?N ?d ?v ?_ ?s; (case N => assumption); (case d => assumption); (case v => rfl); (case s => with_unfolding_all rfl); k_whole)))
theorem abs_c {w : World} {p : Program} {loose : List Str} {mean : ExcName → Option Value} {mg mb : Str → Option Value}
    {A A₀ : Around} {env : Env} {outer : List Env} {base h₀ : Heap} {L : Addr} {m : Str → Option Value} {news : List (Addr × Obj)} {s : Shared}
    {Q E : Value → Shared → Prop} {a b : Bool} {x d : List Nat} {t : Tok}
    (B : Below A₀ base outer h₀) (F : Fr h₀ L s.heap m) (X : (Mine.hd.heap_39 w.params).In h₀)
    (N : News h₀ L s.heap news) (T : Top p loose mean mg mb h₀)
    (hA : A.frames = some (env :: outer)) (hf : env.frame = some L) (hke : env.scope.kind = .function) (hh : A.handled = none)
    (hd : A.depth + 10 < recursionLimit) (hu : A.units + 80 < cLine) (hx : Letters x) (hdd : Digits d)
    (hret : ∀ t h' tk', Fr h₀ L h' m → News h₀ L h' news → Q (.str ⟨(36 :: x ++ 36 :: d).toArray⟩ t) { s with heap := h', toks := tk' }) :
    wpAny (model PySem.Challenge.rw_ez0207_01.row.prog w) A (call (.ref 73) [.str ⟨(placeL a b x d).toArray⟩ t]) Q E s := by
  have hxl : Str.length ⟨(placeL a b x d).toArray⟩ ≤ 20 := by rw [len_mk]; exact Nat.le_trans (placeL_le hx hdd) (by omega)
  obtain ⟨hnd, dp, frs, gds, un⟩ := A
  dsimp only at hA hh hd hu
  subst hA hh
  walk_at "M enter"
  intro g' L' h' FG' F' N' B' X' T'
  dsimp only
  clear hf hke B F X T N
  replace F' : Fr g' L' h' (fun y => List.lookup y [(Str.ofString "coord_string", .str ⟨(placeL a b x d).toArray⟩ t)]) := F'
  walk_at "M go"
  rename (Fr g' L' _ _) => F1
  rename (News g' L' _ _) => N1
  rename (Obj.IsDictOf _ _ _) => I1
  rename ((_ == sysModules) = false) => lo
  rename (∀ p ∈ news, p.1 < _) => lt1
  obtain ⟨D9, od9, U, M9, t1, t2, td, F2, N2, I2, lo2, lt2⟩ : ∃ D9 od9 U M9 t1 t2 td, Fr g' L' _ (hol [Str.ofString "k", Str.ofString "v"] U [(Str.ofString "coord_string", .str ⟨(placeL a b x d).toArray⟩ t), (Str.ofString "m", .ref M9), (Str.ofString "d", .ref D9)]) ∧
      News g' L' _ ((D9, od9) :: news) ∧ Obj.IsDictOf (strKind PySem.Challenge.rw_ez0207_01.row.prog w) od9 (absKv x d t1 t2 td) ∧ (D9 == sysModules) = false ∧ (∀ p ∈ news, p.1 < D9) := ⟨_, _, _, _, _, _, _, Fr.hol F1 (holP (holP (hol0 fun _ => rfl))), N1, I1, lo, lt1⟩
  clear F1 N1 I1 lo lt1
  refine For_itemsD (h₀ := g') ?_ (fun _ => rfl)
  refine MethodCall_ ?_
  refine ld F2 (by rfl) ?_
  refine kdl_method (knd := strKind _ _) PySem.F.slot_dict_items PySem.F.type_dict_items N2 (.head _) I2 ?_
  refine callWith_method0 ?_
  refine kta_callItems (knd := strKind _ _) F2 N2 (.head _) I2 lo2 ?_
  intro h3 hv3 F3 N3
  refine iter_itemsD F3 N3 I2 hv3 ?_
  intro I h4 ep E4 F4 N4 nI nI2
  have hx1 : Str.length ⟨x.toArray⟩ = x.length := len_mk x
  have hd1 : Str.length ⟨d.toArray⟩ = d.length := len_mk d
  have hx2 := hx.1
  have hx3 := hx.2.1
  have hd2 := hdd.le.1
  have hd3 := hdd.le.2
  have hl1 : Str.length (Str.ofString "$") = 1 := by decide +kernel
  have hl0 : Str.length (Str.ofString "") = 0 := by decide +kernel
  refine ⟨I, D9, 4, ep, _, news, od9, absKv x d t1 t2 td, .none, .none, (fun i m kvs => ∃ U t1 t2, m = hol [Str.ofString "k", Str.ofString "v"] U [(Str.ofString "coord_string", .str ⟨(placeL a b x d).toArray⟩ t), (Str.ofString "m", .ref M9), (Str.ofString "d", .ref D9)] ∧
    kvs = absKv (if 1 ≤ i then 36 :: x else x) (if 2 ≤ i then 36 :: d else d) t1 t2 td), rfl, rfl, nI, nI2, F4, N4, E4, rfl, ⟨U, t1, t2, rfl, rfl⟩, ?_, ?_⟩
  · rintro i m kvs od T key k y h tk iO hi ⟨U, t1, t2, rfl, rfl⟩ hlen hget hE hkey hT F5 N5
    obtain ⟨tk9, rfl⟩ := Value.isStrOf_shape hkey
    match i, hi with
    | 0, _ =>
      obtain ⟨rfl, rfl⟩ : Str.ofString "min_col" = k ∧ Value.str ⟨x.toArray⟩ t1 = y := by
        have := Option.some.inj hget
        exact ⟨congrArg Prod.fst this, congrArg Prod.snd this⟩
      have hE0 : DictE _ w od (absKv x d t1 t2 td) ep := hE
      clear hE hget hlen hkey
      walk_at "M go"
      · rename (_ = Str.empty ++ Str.ofString "$") => e1
        rename (_ = _ ++ (⟨x.toArray⟩ : Str)) => e2
        rename (DictE _ w _ (stored _ _ _) ep) => E9
        rename (Fr g' L' _ _) => F9
        rename (News g' L' _ _) => N9
        rw [e2, e1, dollar, absKv_set0] at E9
        exact ItemPost.intro (Fr.hol F9 (holS rfl (holS rfl holB))) N9 E9 rfl ⟨_, _, _, rfl, rfl⟩
      · exfalso
        simp only [len_mk] at *
        omega
    | 1, _ =>
      obtain ⟨rfl, rfl⟩ : Str.ofString "min_row" = k ∧ Value.str ⟨d.toArray⟩ t2 = y := by
        have := Option.some.inj hget
        exact ⟨congrArg Prod.fst this, congrArg Prod.snd this⟩
      have hE0 : DictE _ w od (absKv (36 :: x) d t1 t2 td) ep := hE
      clear hE hget hlen hkey
      walk_at "M go"
      · rename (_ = Str.empty ++ Str.ofString "$") => e1
        rename (_ = _ ++ (⟨d.toArray⟩ : Str)) => e2
        rename (DictE _ w _ (stored _ _ _) ep) => E9
        rename (Fr g' L' _ _) => F9
        rename (News g' L' _ _) => N9
        rw [e2, e1, dollar, absKv_set1] at E9
        exact ItemPost.intro (Fr.hol F9 (holS rfl (holS rfl holB))) N9 E9 rfl ⟨_, _, _, rfl, rfl⟩
      · exfalso
        simp only [len_mk] at *
        omega
    | 2, _ =>
      obtain ⟨rfl, rfl⟩ : Str.ofString "max_col" = k ∧ Value.str (Str.ofString "") td = y := by
        have := Option.some.inj hget
        exact ⟨congrArg Prod.fst this, congrArg Prod.snd this⟩
      have hE0 : DictE _ w od (absKv (36 :: x) (36 :: d) t1 t2 td) ep := hE
      clear hE hget hlen hkey
      walk_at "M go"
      rename (Fr g' L' _ _) => F9
      rename (News g' L' _ _) => N9
      exact ItemPost.intro (Fr.hol F9 (holS rfl (holS rfl holB))) N9 hE0 rfl ⟨_, _, _, rfl, rfl⟩
    | 3, _ =>
      obtain ⟨rfl, rfl⟩ : Str.ofString "max_row" = k ∧ Value.str (Str.ofString "") td = y := by
        have := Option.some.inj hget
        exact ⟨congrArg Prod.fst this, congrArg Prod.snd this⟩
      have hE0 : DictE _ w od (absKv (36 :: x) (36 :: d) t1 t2 td) ep := hE
      clear hE hget hlen hkey
      walk_at "M go"
      rename (Fr g' L' _ _) => F9
      rename (News g' L' _ _) => N9
      exact ItemPost.intro (Fr.hol F9 (holS rfl (holS rfl holB))) N9 hE0 rfl ⟨_, _, _, rfl, rfl⟩
  · rintro h tk m kvs od F5 N5 E5 ⟨U, t1, t2, rfl, rfl⟩
    have E6 : DictE _ w od (absKv (36 :: x) (36 :: d) t1 t2 td) ep := E5
    clear E5
    have hx4 : Str.length ⟨(36 :: x).toArray⟩ = x.length + 1 := by rw [len_mk]; rfl
    have hd4 : Str.length ⟨(36 :: d).toArray⟩ = d.length + 1 := by rw [len_mk]; rfl
    walk_at "M go"
    rename (_ = Str.empty ++ _) => e1
    rename (_ = _ ++ (⟨(36 :: d).toArray⟩ : Str)) => e2
    rw [e1, cat_two] at e2
    subst e2
    refine leaveK_ F5 N5 ?_
    intro F9 N9
    exact hret _ _ _ F9 fun p hp => N9 p (.tail _ hp)
end
section
theorem off_C0 : True := by
  w_top off
  trivial
local macro_rules | `(tactic| k_all) => `(tactic| assumption)
local macro_rules | `(tactic| walk_at "M enter") => `(tactic| (refine wpAny_call ?_; k_dflt (refine' code_def ?k1 ?k2 ?k3 ?k4 ?k5 ?kA ?kF ?kK ?k6 ?k7 ?k8 ?k9 ?kB ?_ ?c2 ?c3 ?c4 ?c5; (case kA => first | assumption | exact rfl); (case kF => assumption); (case kK => assumption); (case k1 => k_asm); (case k2 => k_asm); (case k3 => k_asm); (case k4 => k_asm); (case k5 => k_asm); (case k6 => k_is); (case k7 => k_is); (case k8 => first | omega | (dsimp only; omega)); (case k9 => exact BindsTo.of_eq rfl); (case c5 => decide); (case kB => exact locs rfl); (case c2 => exact rfl); (case c3 => exact rfl); (case c4 => exact rfl); k_whole)))
local macro_rules | `(tactic| walk_at "M enterT") => `(tactic| (refine wpAny_call ?_; k_dflt (refine' code_defT ?k1 ?k2 ?k3 ?k4 ?k5 ?kA ?kF ?kK ?k6 ?k7 ?k8 ?k9 ?kB ?_ ?c2 ?c3 ?c4 ?c5; (case kA => first | assumption | exact rfl); (case kF => assumption); (case kK => assumption); (case k1 => k_asm); (case k2 => k_asm); (case k3 => k_asm); (case k4 => k_asm); (case k5 => k_asm); (case k6 => k_is); (case k7 => k_is); (case k8 => first | omega | (dsimp only; omega)); (case k9 => exact BindsTo.of_eq rfl); (case c5 => decide); (case kB => exact locs rfl); (case c2 => exact rfl); (case c3 => exact rfl); (case c4 => exact rfl); k_whole)))
local macro_rules | `(tactic| walk_at "M open") => `(tactic| (rename Around => A9; rename (Around.frames _ = _) => hA9; rename (Around.handled _ = _) => hh9; revert hA9 hh9; rename (Around.depth _ + _ < _) => hd9; revert hd9; rename (Around.units _ + _ < _) => hu9; revert hu9; cases A9; dsimp only; intro hu9 hd9 hA9 hh9; subst hA9; subst hh9))
local macro_rules | `(tactic| walk_at "M noloop") => `(tactic| ((fail_if_success (with_reducible show wpAny _ _ (exec (Stmt.While _ _ _ _) _) _ _ _)); (fail_if_success (with_reducible show wpAny _ _ (exec (Stmt.For _ _ _ _ _) _) _ _ _)); (fail_if_success (with_reducible show LCg.CompSrc _ _ _ _ _ _ _ _ _ _ _ _ _ _)); (fail_if_success (with_reducible show wpAny _ _ (eval (PySem.Expr.ListComp _ _ _ _) _) _ _ _)); (fail_if_success (with_reducible show wpAny _ _ _ (fun it s₂ => PairAt3 _ _ _ _ _ _ _ _ _ _ it s₂) _ _))))
local macro_rules | `(tactic| walk_at "M go") => `(tactic| repeat' (walk_at "M noloop"; first | (k_unfold; (try dsimp only)) | (k_end; kc_close) | walk1 | (dsimp only; walk1) | (leave1; walk_say "STEP leave1"; (try dsimp only)) | fail "no step"))
local macro_rules | `(tactic| walk_at "And") => `(tactic| ((with_reducible show PySem.Str.length (_ ++ _) ≤ sizeLine ∧ wpAny _ _ (joinParts _ _) _ _ _); refine fs_and (by (simp only [len_mk, show Str.length Str.empty = 0 from rfl] at *); omega) ?_; intro zF hzF))
local macro_rules | `(tactic| walk_at "joinParts") => `(tactic| (first | (with_reducible show wpAny _ _ (joinParts _ []) _ _ _) | (with_reducible refine joinParts_nilE ?_)); refine fs_nil (by (simp only [len_mk, show Str.length Str.empty = 0 from rfl] at *); omega) ?_)
local macro_rules | `(tactic| walk_at "M enterC") => `(tactic| (refine wpAny_call ?_; k_dflt (refine' code_defC ?k1 ?k2 ?k3 ?k4 ?k5 ?kA ?kF ?kK ?k6 ?k7 ?k8 ?k9 ?kB ?kD ?_ ?c2 ?c3 ?c4; (case kA => first | assumption | exact rfl); (case kF => assumption); (case kK => assumption); (case k1 => k_asm); (case k2 => k_asm); (case k3 => k_asm); (case k4 => k_asm); (case k5 => k_asm); (case k6 => k_is); (case k7 => k_is); (case k8 => first | omega | (dsimp only; omega)); (case k9 => exact BindsTo.of_eq rfl); (case kB => exact rfl); (case kD => decide +kernel); (case c2 => exact rfl); (case c3 => exact rfl); (case c4 => exact rfl); k_whole)))
local macro_rules | `(tactic| walk_at "M next") => `(tactic| (k_here; (with_reducible show wpAny _ _ (call (Value.ref 105) [Value.ref _, Value.int _ _]) _ _ _); k_dflt (refine' next_u ?B ?F ?X ?N ?T ?hA ?hf ?hke ?hh ?hd ?hu ?hst ?hos ?U ?hsc ?m0 ?m1 ?_; (case hA => exact rfl); (case hf => exact rfl); (case hke => exact rfl); (case hh => exact rfl); (case B => k_asm); (case F => k_asm); (case X => k_asm); (case N => k_asm); (case T => k_asm); (case hst => assumption); (case hos => assumption); (case U => k_updF); (case hsc => k_mem); (case hd => ktr_room); (case hu => ktr_units); (case m0 => omega); (case m1 => omega)); intro r9 t9 o9 h9 tk9 hr0 hr1 hst9 F9 N9; (try dsimp only at N9)))
section
variable {prog : Program} {w : World} {A : Around} {E : Value → Shared → Prop} {s : Shared} {h₀ : Heap} {L : Addr} {m : Str → Option Value} {env : Env}
/-- a tuple at hand in the ledger -/
def TupIn (tx : Addr) (its : Array Value) (k : Nat) (nw : List (Addr × Obj)) : Prop := (tx, ({ cls := .type "tuple", data := .seq its k } : Obj)) ∈ nw
theorem tup_st {ax I : Addr} {its : Array Value} {k : Nat} : ∀ i (h h' : Heap) (o : Obj) (nw : List (Addr × Obj)), (h.IsTupleIter I ax i ∧ h.IsTuple ax its) → h.get? I = some o → h'.get? I = some o → (∀ b o, h₀.get? b = some o → h'.get? b = some o) → News h₀ L h' nw → TupIn ax its k nw → (h'.IsTupleIter I ax i ∧ h'.IsTuple ax its) :=
  fun i h h' o nw st e e' _ N S => ⟨by obtain ⟨o', q, r⟩ := st.1; rw [e] at q; cases q; exact ⟨o, e', r⟩, ⟨_, (N _ S).1, rfl, _, rfl⟩⟩
def TupSrc (prog : Program) (w : World) (A : Around) (h₀ : Heap) (L : Addr) (m : Str → Option Value) (env : Env) (elt : PySem.Expr) (x : Str) (scope : Scope) (cl : List (Str × Addr)) (Q : Value → Shared → Prop) (xv : Value) (s₁ : Shared) : Prop :=
  ∃ tx its k news, xv = .ref tx ∧ A.handled = none ∧ Fr h₀ L s₁.heap m ∧ News h₀ L s₁.heap news ∧ TupIn tx its k news ∧ its.size ≤ sizeLine ∧
      ∀ g, LCg.CompRest prog w A h₀ L m env elt x scope cl { s₁ with heap := g } (TupIn tx its k) (fun i v => its[i]? = some v) (LCg.FinE h₀ L m { s₁ with heap := g } Q) its.size 0 [] news
/-- a comprehension over a tuple at hand -/
theorem ListComp_Tu {elt iter : PySem.Expr} {x : Str} {px : Pos} {scope : Scope} {cl : List (Str × Addr)} {pos : Pos} {Q : Value → Shared → Prop} (F₀ : Fr h₀ L s.heap m)
    (hclos : closureFor scope env = pure cl) (hcell : ∀ y ∈ scope.names, y.2 ≠ .cell) (hkind : scope.kind = .function)
    (hnames : ∀ y ∈ scope.names, y.2 = .local → scope.names.lookup y.1 = some .local) (hx : scope.names.lookup x = some .local)
    (h : wpAny (model prog w) A (eval iter env) (TupSrc prog w A h₀ L m env elt x scope cl Q) E s)
    (hs : ∀ x, foldedSetIterable iter env x = pure x := by intro _; rfl) :
    wpAny (model prog w) A (eval (.ListComp elt [⟨.Name x px, iter, [], 0⟩] scope pos) env) Q E s := by
  rw [eval_ListComp]
  refine wpAny_comprehension_free (use := none) rfl hs hclos hkind hnames (wpAny_mono h (fun xv s₁ h₁ => ?_) fun _ _ e => e)
  obtain ⟨ax, its, k, news, rfl, hh, F, N, S, hsz, R⟩ := h₁
  have hl : s₁.heap.IsTuple ax its := ⟨_, (N _ S).1, rfl, _, rfl⟩
  have hlt : ax < s₁.heap.objs.size := by obtain ⟨_, e, _⟩ := hl; exact Heap.lt_size e
  refine wpAny_pyIter_tuple hl ?_
  have up : ∀ b o, s₁.heap.get? b = some o → (s₁.heap.push { cls := .type "tuple_iterator", data := .fields #[.ref ax, .int 0 0] }).get? b = some o := fun b o e => Heap.get?_push_of_some _ e
  refine LCg.block_U (Walks.tuple hh s₁.heap.objs.size ax (Nat.ne_of_lt hlt) its) hsz (fun i h st => by obtain ⟨o, e, _⟩ := st.1; exact ⟨o, e⟩) tup_st hcell hkind hx ⟨⟨_, Heap.get?_push_size _ rfl, rfl, rfl⟩, hl.push _⟩ (fun b hb => ?_)
    (F.keeps up) (N.grown up) (Nat.ne_of_lt F.ns.lt) (next_is_new F) (fun p hp => Nat.ne_of_lt (Heap.lt_size (N p hp).1)) S (R _) ?_
  · show b < (s₁.heap.push _).objs.size
    rw [Heap.size_push]
    rcases List.mem_cons.mp hb with rfl | hb
    · exact Nat.lt_succ_self _
    · rw [List.mem_singleton.mp hb]; exact Nat.lt_succ_of_lt hlt
  · intro D C h tk m' ys news' F' N' o1 hn hC₀ hD₀ hCL hDL hCD offC fin
    refine ⟨m', hn, fun h'' hs'' => fin D h'' tk (F'.change hs'' hCL hC₀) (fun p hp => ?_) o1⟩
    refine ⟨hs''.extBut _ _ ?_ (N' p hp).1, (N' p hp).2⟩
    rcases List.mem_cons.mp hp with rfl | hp
    · exact Ne.symm hCD
    · exact offC p hp
end
end
section
theorem off_W0 : True := by
  w_top off
  trivial
local macro_rules | `(tactic| walk_at "M none") => `(tactic| fail "none")
local macro_rules | `(tactic| walk_at "M none") => `(tactic| fail "none")
local macro_rules | `(tactic| walk_at "M none") => `(tactic| fail "none")
local macro_rules | `(tactic| walk_at "M none") => `(tactic| fail "none")
local macro_rules | `(tactic| walk_at "M none") => `(tactic| fail "none")
local macro_rules | `(tactic| walk_at "M none") => `(tactic| fail "none")
local macro_rules | `(tactic| walk_at "M none") => `(tactic| fail "none")
local macro_rules | `(tactic| walk_at "M none") => `(tactic| fail "none")
local macro_rules | `(tactic| walk_at "M none") => `(tactic| fail "none")
local macro_rules | `(tactic| walk_at "M none") => `(tactic| fail "none")
local macro_rules | `(tactic| walk_at "M none") => `(tactic| fail "none")
local macro_rules | `(tactic| walk_at "M none") => `(tactic| fail "none")
local macro_rules | `(tactic| walk_at "M none") => `(tactic| fail "none")
local macro_rules | `(tactic| walk_at "M none") => `(tactic| fail "none")
local macro_rules | `(tactic| walk_at "M none") => `(tactic| fail "none")
local macro_rules | `(tactic| walk_at "M none") => `(tactic| fail "none")
local macro_rules | `(tactic| walk_at "M none") => `(tactic| fail "none")
local macro_rules | `(tactic| walk_at "M none") => `(tactic| fail "none")
local macro_rules | `(tactic| walk_at "M none") => `(tactic| fail "none")
local macro_rules | `(tactic| walk_at "M none") => `(tactic| fail "none")
local macro_rules | `(tactic| walk_at "M none") => `(tactic| fail "none")
local macro_rules | `(tactic| walk_at "M none") => `(tactic| fail "none")
local macro_rules | `(tactic| walk_at "M none") => `(tactic| fail "none")
local macro_rules | `(tactic| walk_at "M none") => `(tactic| fail "none")
local macro_rules | `(tactic| walk_at "M none") => `(tactic| fail "none")
local macro_rules | `(tactic| walk_at "M none") => `(tactic| fail "none")
local macro_rules | `(tactic| walk_at "M none") => `(tactic| fail "none")
local macro_rules | `(tactic| walk_at "M none") => `(tactic| fail "none")
local macro_rules | `(tactic| walk_at "M none") => `(tactic| fail "none")
local macro_rules | `(tactic| walk_at "M none") => `(tactic| fail "none")
local macro_rules | `(tactic| k_all) => `(tactic| assumption)
local macro_rules | `(tactic| walk_at "M enter") => `(tactic| (refine wpAny_call ?_; k_dflt (refine' code_def ?k1 ?k2 ?k3 ?k4 ?k5 ?kA ?kF ?kK ?k6 ?k7 ?k8 ?k9 ?kB ?_ ?c2 ?c3 ?c4 ?c5; (case kA => first | assumption | exact rfl); (case kF => assumption); (case kK => assumption); (case k1 => k_asm); (case k2 => k_asm); (case k3 => k_asm); (case k4 => k_asm); (case k5 => k_asm); (case k6 => k_is); (case k7 => k_is); (case k8 => first | omega | (dsimp only; omega)); (case k9 => exact BindsTo.of_eq rfl); (case c5 => decide); (case kB => exact locs rfl); (case c2 => exact rfl); (case c3 => exact rfl); (case c4 => exact rfl); k_whole)))
local macro_rules | `(tactic| walk_at "M enterT") => `(tactic| (refine wpAny_call ?_; k_dflt (refine' code_defT ?k1 ?k2 ?k3 ?k4 ?k5 ?kA ?kF ?kK ?k6 ?k7 ?k8 ?k9 ?kB ?_ ?c2 ?c3 ?c4 ?c5; (case kA => first | assumption | exact rfl); (case kF => assumption); (case kK => assumption); (case k1 => k_asm); (case k2 => k_asm); (case k3 => k_asm); (case k4 => k_asm); (case k5 => k_asm); (case k6 => k_is); (case k7 => k_is); (case k8 => first | omega | (dsimp only; omega)); (case k9 => exact BindsTo.of_eq rfl); (case c5 => decide); (case kB => exact locs rfl); (case c2 => exact rfl); (case c3 => exact rfl); (case c4 => exact rfl); k_whole)))
local macro_rules | `(tactic| walk_at "M open") => `(tactic| (rename Around => A9; rename (Around.frames _ = _) => hA9; rename (Around.handled _ = _) => hh9; revert hA9 hh9; rename (Around.depth _ + _ < _) => hd9; revert hd9; rename (Around.units _ + _ < _) => hu9; revert hu9; cases A9; dsimp only; intro hu9 hd9 hA9 hh9; subst hA9; subst hh9))
local macro_rules | `(tactic| walk_at "M noloop") => `(tactic| ((fail_if_success (with_reducible show wpAny _ _ (exec (Stmt.While _ _ _ _) _) _ _ _)); (fail_if_success (with_reducible show wpAny _ _ (exec (Stmt.For _ _ _ _ _) _) _ _ _)); (fail_if_success (with_reducible show LCg.CompSrc _ _ _ _ _ _ _ _ _ _ _ _ _ _)); (fail_if_success (with_reducible show wpAny _ _ (eval (PySem.Expr.ListComp _ _ _ _) _) _ _ _)); (fail_if_success (with_reducible show wpAny _ _ _ (fun it s₂ => PairAt3 _ _ _ _ _ _ _ _ _ _ it s₂) _ _))))
local macro_rules | `(tactic| walk_at "M go") => `(tactic| repeat' (walk_at "M noloop"; first | (k_unfold; (try dsimp only)) | (k_end; kc_close) | walk1 | (dsimp only; walk1) | (leave1; walk_say "STEP leave1"; (try dsimp only)) | fail "no step"))
local macro_rules | `(tactic| walk_at "And") => `(tactic| ((with_reducible show PySem.Str.length (_ ++ _) ≤ sizeLine ∧ wpAny _ _ (joinParts _ _) _ _ _); refine fs_and (by (simp only [len_mk, show Str.length Str.empty = 0 from rfl] at *); omega) ?_; intro zF hzF))
local macro_rules | `(tactic| walk_at "joinParts") => `(tactic| (first | (with_reducible show wpAny _ _ (joinParts _ []) _ _ _) | (with_reducible refine joinParts_nilE ?_)); refine fs_nil (by (simp only [len_mk, show Str.length Str.empty = 0 from rfl] at *); omega) ?_)
local macro_rules | `(tactic| walk_at "M enterC") => `(tactic| (refine wpAny_call ?_; k_dflt (refine' code_defC ?k1 ?k2 ?k3 ?k4 ?k5 ?kA ?kF ?kK ?k6 ?k7 ?k8 ?k9 ?kB ?kD ?_ ?c2 ?c3 ?c4; (case kA => first | assumption | exact rfl); (case kF => assumption); (case kK => assumption); (case k1 => k_asm); (case k2 => k_asm); (case k3 => k_asm); (case k4 => k_asm); (case k5 => k_asm); (case k6 => k_is); (case k7 => k_is); (case k8 => first | omega | (dsimp only; omega)); (case k9 => exact BindsTo.of_eq rfl); (case kB => exact rfl); (case kD => decide +kernel); (case c2 => exact rfl); (case c3 => exact rfl); (case c4 => exact rfl); k_whole)))
local macro_rules | `(tactic| walk_at "M next") => `(tactic| (k_here; (with_reducible show wpAny _ _ (call (Value.ref 105) [Value.ref _, Value.int _ _]) _ _ _); k_dflt (refine' next_u ?B ?F ?X ?N ?T ?hA ?hf ?hke ?hh ?hd ?hu ?hst ?hos ?U ?hsc ?m0 ?m1 ?_; (case hA => exact rfl); (case hf => exact rfl); (case hke => exact rfl); (case hh => exact rfl); (case B => k_asm); (case F => k_asm); (case X => k_asm); (case N => k_asm); (case T => k_asm); (case hst => assumption); (case hos => assumption); (case U => k_updF); (case hsc => k_mem); (case hd => ktr_room); (case hu => ktr_units); (case m0 => omega); (case m1 => omega)); intro r9 t9 o9 h9 tk9 hr0 hr1 hst9 F9 N9; (try dsimp only at N9)))
theorem lawSt0 (sc : Addr) (t1 t2 : Tok) : LawSt sc (W.listOf #[.ref sc, .int 0 t1, .int 17 t2] 0) := ⟨0, 17, t1, t2, 0, rfl, by omega, by omega, by omega, by omega⟩
theorem scrOk_of {ws : List Value} {ns : List Int} (h : IntsAre ws (List.take 40 ns)) : ScrOk (W.listOf ws.toArray 0) := ⟨ws, _, 0, rfl, h, by rw [List.length_take]; omega⟩
/-- what holds between two statements -/
def CutP (R : Heap → Addr → Heap → Prop) (h₀ : Heap) (L : Addr) (s : Shared) (f : Flow) (s' : Shared) : Prop := f = .next ∧ ∃ h tk, s' = { s with heap := h, toks := tk } ∧ R h₀ L h
theorem CutP.intro {R : Heap → Addr → Heap → Prop} {h₀ : Heap} {L : Addr} {s : Shared} {h : Heap} {tk : Nat} (r : R h₀ L h) : CutP R h₀ L s .next { s with heap := h, toks := tk } := ⟨rfl, h, tk, rfl, r⟩
theorem cutG {M : Model} {A : Around} {E : Value → Shared → Prop} {s : Shared} {x : Sem Flow} {Q : Flow → Shared → Prop} {h₀ : Heap} {L : Addr} {m : Str → Option Value} (_ : Fr h₀ L s.heap m) (R : Heap → Addr → Heap → Prop) (h : wpAny M A x (CutP R h₀ L s) E s)
    (k : ∀ h tk, R h₀ L h → Q .next { s with heap := h, toks := tk }) : wpAny M A x Q E s :=
  wpAny_mono h (fun f s' q => by obtain ⟨rfl, h, tk, rfl, r⟩ := q; exact k h tk r) fun _ _ e => e
local macro_rules | `(tactic| walk_at "M law") => `(tactic| repeat' (walk_at "M noloop"; (fail_if_success (with_reducible show LCg.CompEnd _ _ _ _ _ _ _ _ _ _ _ _ _ _)); first | (k_unfold; (try dsimp only)) | (k_end; kc_close) | ((with_reducible show wpAny _ _ (call (Value.ref _) _) _ _ _); walk_at "M call") | ((fail_if_success (with_reducible show wpAny _ _ (call (Value.ref _) _) _ _ _)); walk1) | ((fail_if_success (with_reducible show wpAny _ _ (call (Value.ref _) _) _ _ _)); dsimp only; (fail_if_success (with_reducible show wpAny _ _ (call (Value.ref _) _) _ _ _)); walk1) | (leave1; walk_say "STEP leave1"; (try dsimp only)) | fail "no step"))
local macro_rules | `(tactic| walk_at "M call") => `(tactic| (walk_at "M next"))
/-- the law's world between two statements: the state list, the script, the two cells, and what «V» says of the names and of further objects -/
def LawI (C1 C2 : Addr) (hs : List Str) (V : Option Value → List (Str × Value) → List (Addr × Obj) → Prop) (h₀ : Heap) (L : Addr) (h : Heap) : Prop :=
  ∃ ST SC st os o1 o2 U l ex fv, Fr h₀ L h (hol hs U l) ∧ News h₀ L h (ex ++ [(ST, st), (SC, os), (C2, o2), (C1, o1)]) ∧ LawSt SC st ∧ ScrOk os ∧ o1.data = .cell (some (.ref ST)) ∧ o2.data = .cell fv ∧ C1 < C2 ∧ C2 < SC ∧ SC < ST ∧ (∀ p ∈ ex, p.1 ≠ ST) ∧ V fv l ex
section
variable {prog : Program} {w : World} {A : Around} {E : Value → Shared → Prop} {s : Shared} {h₀ : Heap} {L : Addr} {news : List (Addr × Obj)}
/-- a list at hand, taken at a drawn place -/
theorem item_L {value slice : PySem.Expr} {l : Addr} {vs : List Value} {c : Nat} {k : Int} {u : Tok} {Q : Value → Shared → Prop} (N : News h₀ L s.heap news) (hm : (l, W.listOf vs.toArray c) ∈ news) (h0 : 0 ≤ k) (h1 : k < vs.length) (hl : vs.length ≤ 100) (h : ∀ v, vs[k.toNat]? = some v → Q v s)
    (hs : subscripted slice false (.ref l) (.int k u) = operate [.ref l, .int k u] (getItem (.ref l) (.int k u)) := by with_unfolding_all rfl) :
    wpAny (model prog w) A (subscriptTail value slice (.ref l) (.int k u)) Q E s := by
  have hL : s.heap.IsList l vs.toArray := ⟨_, (N _ hm).1, rfl, _, rfl⟩
  have hk : k.toNat < vs.length := by omega
  exact tail_any hL.typeIs slot_list_getitem.lookup (wpAny_getItem_list hL h0 (by omega) (by simpa using List.getElem?_eq_getElem hk) (h _ (List.getElem?_eq_getElem hk))) hs
end
theorem offs_of {C1 C2 SC ST : Addr} {os o1 o2 : Obj} (c1 : C1 < C2) (c2 : C2 < SC) (c3 : SC < ST) : ∀ p ∈ [(SC, os), (C2, o2), (C1, o1)], p.1 ≠ ST := by
  intro p hp
  simp only [List.mem_cons, List.not_mem_nil, or_false] at hp
  rcases hp with rfl | rfl | rfl
  · exact Nat.ne_of_lt c3
  · exact Nat.ne_of_lt (Nat.lt_trans c2 c3)
  · exact Nat.ne_of_lt (Nat.lt_trans c1 (Nat.lt_trans c2 c3))
theorem num_rng {r q : Int} (h0 : 0 ≤ r) (h1 : r < 7) (h2 : 0 ≤ q) (h3 : q < 5) : -1 ≤ [1, 14, 26, 52, 702, 728, 18278].getD r.toNat 0 + q - 2 ∧ [1, 14, 26, 52, 702, 728, 18278].getD r.toNat 0 + q - 2 ≤ 18280 := by
  obtain ⟨n, rfl⟩ : ∃ n : Nat, r = n := ⟨r.toNat, by omega⟩
  rw [Int.toNat_natCast]
  match n, h1 with
  | 0, _ | 1, _ | 2, _ | 3, _ | 4, _ | 5, _ | 6, _ => simp only [List.getD_cons_zero, List.getD_cons_succ]; omega
  | n + 7, h => omega
local macro_rules | `(tactic| walk_at "M call") => `(tactic| (k_here; (with_reducible show wpAny _ _ (call (Value.ref 112) [Value.int _ _]) _ _ _); k_dflt (refine' letters_i ?B ?F ?X ?N ?T ?hA ?hf ?hke ?hh ?hd ?hu ?h0 ?h1 ?_; (case hA => exact rfl); (case hf => exact rfl); (case hke => exact rfl); (case hh => exact rfl); (case B => k_asm); (case F => k_asm); (case X => k_asm); (case N => k_asm); (case T => k_asm); (case h0 => omega); (case h1 => omega); (case hd => ktr_room); (case hu => ktr_units)); intro t9 h9 tk9 F9 N9))
theorem told81_s {w : World} {p : Program} {loose : List Str} {mean : ExcName → Option Value} {mg mb : Str → Option Value}
    {A A₀ : Around} {env : Env} {base h₀ : Heap} {L : Addr} {m : Str → Option Value} {news : List (Addr × Obj)} {s : Shared}
    {Q E : Value → Shared → Prop} {k : Int} {t : Tok}
    (B : Below A₀ base [] h₀) (F : Fr h₀ L s.heap m) (X : (Mine.hd.heap_39 w.params).In h₀)
    (N : News h₀ L s.heap news) (T : Top p loose mean mg mb h₀) (XB : (Mine.hd.heap_39 w.params).In base) (TB : Top p loose mean mg mb base)
    (hA : A.frames = some [env]) (hf : env.frame = some L) (hke : env.scope.kind = .function) (hh : A.handled = none)
    (hd : A.depth + 20 < recursionLimit) (hu : A.units + 160 < cLine) (h0 : 1 ≤ k) (h1 : k ≤ 18278)
    (hret : ∀ t h' tk', Fr h₀ L h' m → News h₀ L h' news → Q (.str ⟨(lettersL 5 k.toNat).toArray⟩ t) { s with heap := h', toks := tk' }) : wpAny (model PySem.Challenge.rw_ez0207_01.row.prog w) A (call (.ref 126) [.ref 81, .int k t]) Q E s :=
  told81_c B F X N T XB TB hA hf hke hh hd hu (by omega) (by omega) fun v h' tk' a _ F N => by obtain ⟨t, rfl⟩ := a ⟨h0, h1⟩; exact hret _ _ _ F N
theorem told81_n {w : World} {p : Program} {loose : List Str} {mean : ExcName → Option Value} {mg mb : Str → Option Value}
    {A A₀ : Around} {env : Env} {base h₀ : Heap} {L : Addr} {m : Str → Option Value} {news : List (Addr × Obj)} {s : Shared}
    {Q E : Value → Shared → Prop} {k : Int} {t : Tok}
    (B : Below A₀ base [] h₀) (F : Fr h₀ L s.heap m) (X : (Mine.hd.heap_39 w.params).In h₀)
    (N : News h₀ L s.heap news) (T : Top p loose mean mg mb h₀) (XB : (Mine.hd.heap_39 w.params).In base) (TB : Top p loose mean mg mb base)
    (hA : A.frames = some [env]) (hf : env.frame = some L) (hke : env.scope.kind = .function) (hh : A.handled = none)
    (hd : A.depth + 20 < recursionLimit) (hu : A.units + 160 < cLine) (h0 : -1 ≤ k) (h1 : k ≤ 20000) (h2 : ¬ (1 ≤ k ∧ k ≤ 18278))
    (hret : ∀ h' tk', Fr h₀ L h' m → News h₀ L h' news → Q .none { s with heap := h', toks := tk' }) : wpAny (model PySem.Challenge.rw_ez0207_01.row.prog w) A (call (.ref 126) [.ref 81, .int k t]) Q E s :=
  told81_c B F X N T XB TB hA hf hke hh hd hu h0 h1 fun v h' tk' _ b F N => by obtain rfl := b h2; exact hret _ _ F N
local macro_rules | `(tactic| walk_at "M call") => `(tactic| (k_here; (with_reducible show wpAny _ _ (call (Value.ref 126) [Value.ref 81, Value.int _ _]) _ _ _); k_dflt (refine' told81_s ?B ?F ?X ?N ?T ?XB ?TB ?hA ?hf ?hke ?hh ?hd ?hu ?h0 ?h1 ?_; (case hA => exact rfl); (case hf => exact rfl); (case hke => exact rfl); (case hh => exact rfl); (case B => k_asm); (case F => k_asm); (case X => k_asm); (case N => k_asm); (case T => k_asm); (case XB => assumption); (case TB => assumption); (case h0 => omega); (case h1 => omega); (case hd => ktr_room); (case hu => ktr_units)); intro t9 h9 tk9 F9 N9))
local macro_rules | `(tactic| walk_at "M call") => `(tactic| (k_here; (with_reducible show wpAny _ _ (call (Value.ref 126) [Value.ref 81, Value.int _ _]) _ _ _); k_dflt (refine' told81_n ?B ?F ?X ?N ?T ?XB ?TB ?hA ?hf ?hke ?hh ?hd ?hu ?h0 ?h1 ?h2 ?_; (case hA => exact rfl); (case hf => exact rfl); (case hke => exact rfl); (case hh => exact rfl); (case B => k_asm); (case F => k_asm); (case X => k_asm); (case N => k_asm); (case T => k_asm); (case XB => assumption); (case TB => assumption); (case h0 => omega); (case h1 => omega); (case h2 => assumption); (case hd => ktr_room); (case hu => ktr_units)); intro h9 tk9 F9 N9))
theorem told91_s {w : World} {p : Program} {loose : List Str} {mean : ExcName → Option Value} {mg mb : Str → Option Value}
    {A A₀ : Around} {env : Env} {base h₀ : Heap} {L : Addr} {m : Str → Option Value} {news : List (Addr × Obj)} {s : Shared}
    {Q E : Value → Shared → Prop} {x ux : List Nat} {t : Tok}
    (B : Below A₀ base [] h₀) (F : Fr h₀ L s.heap m) (X : (Mine.hd.heap_39 w.params).In h₀)
    (N : News h₀ L s.heap news) (T : Top p loose mean mg mb h₀) (XB : (Mine.hd.heap_39 w.params).In base) (TB : Top p loose mean mg mb base)
    (hA : A.frames = some [env]) (hf : env.frame = some L) (hke : env.scope.kind = .function) (hh : A.handled = none)
    (hd : A.depth + 20 < recursionLimit) (hu : A.units + 160 < cLine) (hx : x.length ≤ 4) (hux : Txt.upper ⟨x.toArray⟩ = ⟨ux.toArray⟩) (hul : ux.length = x.length) {v : Int} (hv : numV ux x.length = some v)
    (hret : ∀ t h' tk', Fr h₀ L h' m → News h₀ L h' news → Q (.int v t) { s with heap := h', toks := tk' }) : wpAny (model PySem.Challenge.rw_ez0207_01.row.prog w) A (call (.ref 126) [.ref 91, .str ⟨x.toArray⟩ t]) Q E s :=
  told91_c B F X N T XB TB hA hf hke hh hd hu hx hux hul fun v' h' tk' a F N => by rw [hv] at a; obtain ⟨t, rfl⟩ := a; exact hret _ _ _ F N
theorem told91_n {w : World} {p : Program} {loose : List Str} {mean : ExcName → Option Value} {mg mb : Str → Option Value}
    {A A₀ : Around} {env : Env} {base h₀ : Heap} {L : Addr} {m : Str → Option Value} {news : List (Addr × Obj)} {s : Shared}
    {Q E : Value → Shared → Prop} {x ux : List Nat} {t : Tok}
    (B : Below A₀ base [] h₀) (F : Fr h₀ L s.heap m) (X : (Mine.hd.heap_39 w.params).In h₀)
    (N : News h₀ L s.heap news) (T : Top p loose mean mg mb h₀) (XB : (Mine.hd.heap_39 w.params).In base) (TB : Top p loose mean mg mb base)
    (hA : A.frames = some [env]) (hf : env.frame = some L) (hke : env.scope.kind = .function) (hh : A.handled = none)
    (hd : A.depth + 20 < recursionLimit) (hu : A.units + 160 < cLine) (hx : x.length ≤ 4) (hux : Txt.upper ⟨x.toArray⟩ = ⟨ux.toArray⟩) (hul : ux.length = x.length) (hv : numV ux x.length = none)
    (hret : ∀ h' tk', Fr h₀ L h' m → News h₀ L h' news → Q .none { s with heap := h', toks := tk' }) : wpAny (model PySem.Challenge.rw_ez0207_01.row.prog w) A (call (.ref 126) [.ref 91, .str ⟨x.toArray⟩ t]) Q E s :=
  told91_c B F X N T XB TB hA hf hke hh hd hu hx hux hul fun v' h' tk' a F N => by rw [hv] at a; obtain rfl : v' = .none := a; exact hret _ _ F N
theorem number_s {w : World} {p : Program} {loose : List Str} {mean : ExcName → Option Value} {mg mb : Str → Option Value}
    {A A₀ : Around} {env : Env} {base h₀ : Heap} {L : Addr} {m : Str → Option Value} {news : List (Addr × Obj)} {s : Shared}
    {Q E : Value → Shared → Prop} {x ux : List Nat} {t : Tok}
    (B : Below A₀ base [] h₀) (F : Fr h₀ L s.heap m) (X : (Mine.hd.heap_39 w.params).In h₀)
    (N : News h₀ L s.heap news) (T : Top p loose mean mg mb h₀) (XB : (Mine.hd.heap_39 w.params).In base) (TB : Top p loose mean mg mb base)
    (hA : A.frames = some [env]) (hf : env.frame = some L) (hke : env.scope.kind = .function) (hh : A.handled = none)
    (hd : A.depth + 20 < recursionLimit) (hu : A.units + 160 < cLine) (hx : x.length ≤ 4) (hux : Txt.upper ⟨x.toArray⟩ = ⟨ux.toArray⟩) (hul : ux.length = x.length) {v : Int} (hv : numV ux x.length = some v)
    (hret : ∀ t h' tk', Fr h₀ L h' m → News h₀ L h' news → Q (.int v t) { s with heap := h', toks := tk' }) : wpAny (model PySem.Challenge.rw_ez0207_01.row.prog w) A (call (.ref 119) [.str ⟨x.toArray⟩ t]) Q E s :=
  number_c B F X N T hA hf hke hh (by omega) (by omega) hx hux (by omega) fun v' h' tk' a F N => by rw [hv] at a; obtain ⟨t, rfl⟩ := a; exact hret _ _ _ F N
theorem number_n {w : World} {p : Program} {loose : List Str} {mean : ExcName → Option Value} {mg mb : Str → Option Value}
    {A A₀ : Around} {env : Env} {base h₀ : Heap} {L : Addr} {m : Str → Option Value} {news : List (Addr × Obj)} {s : Shared}
    {Q E : Value → Shared → Prop} {x ux : List Nat} {t : Tok}
    (B : Below A₀ base [] h₀) (F : Fr h₀ L s.heap m) (X : (Mine.hd.heap_39 w.params).In h₀)
    (N : News h₀ L s.heap news) (T : Top p loose mean mg mb h₀) (XB : (Mine.hd.heap_39 w.params).In base) (TB : Top p loose mean mg mb base)
    (hA : A.frames = some [env]) (hf : env.frame = some L) (hke : env.scope.kind = .function) (hh : A.handled = none)
    (hd : A.depth + 20 < recursionLimit) (hu : A.units + 160 < cLine) (hx : x.length ≤ 4) (hux : Txt.upper ⟨x.toArray⟩ = ⟨ux.toArray⟩) (hul : ux.length = x.length) (hv : numV ux x.length = none)
    (hret : ∀ h' tk', Fr h₀ L h' m → News h₀ L h' news → Q .none { s with heap := h', toks := tk' }) : wpAny (model PySem.Challenge.rw_ez0207_01.row.prog w) A (call (.ref 119) [.str ⟨x.toArray⟩ t]) Q E s :=
  number_c B F X N T hA hf hke hh (by omega) (by omega) hx hux (by omega) fun v' h' tk' a F N => by rw [hv] at a; obtain rfl : v' = .none := a; exact hret _ _ F N
local macro_rules | `(tactic| walk_at "M call") => `(tactic| (k_here; (with_reducible show wpAny _ _ (call (Value.ref 126) [Value.ref 91, Value.str _ _]) _ _ _); k_dflt (refine' told91_s ?B ?F ?X ?N ?T ?XB ?TB ?hA ?hf ?hke ?hh ?hd ?hu ?hx ?hux ?hul ?hv ?_; (case hA => exact rfl); (case hf => exact rfl); (case hke => exact rfl); (case hh => exact rfl); (case B => k_asm); (case F => k_asm); (case X => k_asm); (case N => k_asm); (case T => k_asm); (case XB => assumption); (case TB => assumption); (case hx => assumption); (case hux => assumption); (case hul => assumption); (case hv => assumption); (case hd => ktr_room); (case hu => ktr_units)); intro t9 h9 tk9 F9 N9))
local macro_rules | `(tactic| walk_at "M call") => `(tactic| (k_here; (with_reducible show wpAny _ _ (call (Value.ref 126) [Value.ref 91, Value.str _ _]) _ _ _); k_dflt (refine' told91_n ?B ?F ?X ?N ?T ?XB ?TB ?hA ?hf ?hke ?hh ?hd ?hu ?hx ?hux ?hul ?hv ?_; (case hA => exact rfl); (case hf => exact rfl); (case hke => exact rfl); (case hh => exact rfl); (case B => k_asm); (case F => k_asm); (case X => k_asm); (case N => k_asm); (case T => k_asm); (case XB => assumption); (case TB => assumption); (case hx => assumption); (case hux => assumption); (case hul => assumption); (case hv => assumption); (case hd => ktr_room); (case hu => ktr_units)); intro h9 tk9 F9 N9))
local macro_rules | `(tactic| walk_at "M call") => `(tactic| (k_here; (with_reducible show wpAny _ _ (call (Value.ref 119) [Value.str _ _]) _ _ _); k_dflt (refine' number_s ?B ?F ?X ?N ?T ?XB ?TB ?hA ?hf ?hke ?hh ?hd ?hu ?hx ?hux ?hul ?hv ?_; (case hA => exact rfl); (case hf => exact rfl); (case hke => exact rfl); (case hh => exact rfl); (case B => k_asm); (case F => k_asm); (case X => k_asm); (case N => k_asm); (case T => k_asm); (case XB => assumption); (case TB => assumption); (case hx => assumption); (case hux => assumption); (case hul => assumption); (case hv => assumption); (case hd => ktr_room); (case hu => ktr_units)); intro t9 h9 tk9 F9 N9))
local macro_rules | `(tactic| walk_at "M call") => `(tactic| (k_here; (with_reducible show wpAny _ _ (call (Value.ref 119) [Value.str _ _]) _ _ _); k_dflt (refine' number_n ?B ?F ?X ?N ?T ?XB ?TB ?hA ?hf ?hke ?hh ?hd ?hu ?hx ?hux ?hul ?hv ?_; (case hA => exact rfl); (case hf => exact rfl); (case hke => exact rfl); (case hh => exact rfl); (case B => k_asm); (case F => k_asm); (case X => k_asm); (case N => k_asm); (case T => k_asm); (case XB => assumption); (case TB => assumption); (case hx => assumption); (case hux => assumption); (case hul => assumption); (case hv => assumption); (case hd => ktr_room); (case hu => ktr_units)); intro h9 tk9 F9 N9))
local macro_rules | `(tactic| walk_at "M call") => `(tactic| (k_here; (with_reducible show wpAny _ _ (call (Value.ref 91) [Value.str _ _]) _ _ _); k_dflt (refine' index_v ?B ?F ?X ?N ?T ?XB ?TB ?hA ?hf ?hke ?hh ?hd ?hu ?hx ?hux ?hul ?hv ?_; (case hA => exact rfl); (case hf => exact rfl); (case hke => exact rfl); (case hh => exact rfl); (case B => k_asm); (case F => k_asm); (case X => k_asm); (case N => k_asm); (case T => k_asm); (case XB => assumption); (case TB => assumption); (case hx => assumption); (case hux => assumption); (case hul => assumption); (case hv => assumption); (case hd => ktr_room); (case hu => ktr_units)); intro t9 h9 tk9 F9 N9))
local macro_rules | `(tactic| walk_at "M call") => `(tactic| (k_here; (with_reducible show wpAny _ _ (call (Value.ref 131) [Value.ref _, Value.str _ _]) _ _ _); k_dflt (refine' mixed_c ?B ?F ?X ?N ?T ?hA ?hf ?hke ?hh ?hd ?hu ?hst ?hos ?hne ?hrest ?hx ?hx2 ?_; (case hA => exact rfl); (case hf => exact rfl); (case hke => exact rfl); (case hh => exact rfl); (case B => k_asm); (case F => k_asm); (case X => k_asm); (case N => k_asm); (case T => k_asm); (case hst => assumption); (case hos => assumption); (case hne => assumption); (case hrest => assumption); (case hx => assumption); (case hx2 => assumption); (case hd => ktr_room); (case hu => ktr_units)); intro y9 t9 o9 h9 tk9 hm9 hst9 F9 N9))
/-- a column's letters, or nothing -/
def NameV (number : Int) (v : Value) : Prop := (1 ≤ number ∧ number ≤ 18278 ∧ ∃ t, v = .str ⟨(lettersL 5 number.toNat).toArray⟩ t) ∨ (¬ (1 ≤ number ∧ number ≤ 18278) ∧ v = .none)
def LawR (hs : List Str) (V : Option Value → List (Str × Value) → List (Addr × Obj) → Prop) (h₀ : Heap) (L : Addr) (h : Heap) : Prop := LawI (h₀.objs.size + 1) (h₀.objs.size + 1 + 1) hs V h₀ L h
theorem cut_I {hs : List Str} {V : Option Value → List (Str × Value) → List (Addr × Obj) → Prop} {h₀ : Heap} {L : Addr} {h : Heap} {tk : Nat} {s : Shared} {ST SC : Addr} {st os o1 o2 : Obj} {M : Str → Option Value} {l : List (Str × Value)} {ex : List (Addr × Obj)} {fv : Option Value}
    (F : Fr h₀ L h M) (e : HolE hs M l) (N : News h₀ L h (ex ++ [(ST, st), (SC, os), (h₀.objs.size + 1 + 1, o2), (h₀.objs.size + 1, o1)])) (hst : LawSt SC st) (hos : ScrOk os) (d1 : o1.data = .cell (some (.ref ST))) (d2 : o2.data = .cell fv)
    (c2 : @LT.lt Nat _ (h₀.objs.size + 1 + 1) SC) (c3 : SC < ST) (c4 : ∀ p ∈ ex, p.1 ≠ ST) (v : V fv l ex) : CutP (LawR hs V) h₀ L s .next { s with heap := h, toks := tk } :=
  CutP.intro ⟨ST, SC, st, os, o1, o2, M, l, ex, fv, Fr.hol F e, N, hst, hos, d1, d2, Nat.lt_succ_self _, c2, c3, c4, v⟩
/-- a text that leads back to the number of the letters «L» -/
def IdxOk (L : List Nat) (v : Value) : Prop := ∃ (x : List Nat) (t : Tok), v = .str ⟨x.toArray⟩ t ∧ x.length ≤ 4 ∧ Txt.upper ⟨x.toArray⟩ = ⟨L.toArray⟩ ∧ L.length = x.length
theorem idx3 {L y : List Nat} {t1 t2 t3 : Tok} (hz : ∀ c ∈ L, 65 ≤ c ∧ c ≤ 90) (h3 : L.length ≤ 3) (hm : MixedL L y) :
    ∀ (i : Nat) v, (#[Value.str ⟨L.toArray⟩ t1, .str (Txt.lower ⟨L.toArray⟩) t2, .str ⟨y.toArray⟩ t3] : Array Value)[i]? = some v → IdxOk L v := by
  intro i v h
  match i with
  | 0 => cases h; exact ⟨L, t1, rfl, by omega, upper_mixed (MixedL.refl L) hz, rfl⟩
  | 1 => rw [lower_az hz] at h; cases h; exact ⟨L.map (· + 32), t2, rfl, by rw [List.length_map]; omega, upper_mixed (MixedL.low L) hz, by rw [List.length_map]⟩
  | 2 => cases h; exact ⟨y, t3, rfl, by rw [hm.length]; omega, upper_mixed hm hz, hm.length.symm⟩
  | n + 3 => simp at h
theorem ints_snoc {k : Int} {t : Tok} : ∀ {vs : List Value} {ns : List Int}, IntsAre vs ns → IntsAre (vs ++ [.int k t]) (ns ++ [k])
  | _, _, .nil => .cons k t .nil
  | _, _, .cons z u r => .cons z u (ints_snoc r)
theorem item_sgn : ∀ r : Nat, r < 9 → ∃ c, c ∈ sgn ∧ Txt.item (Str.ofString "AbZ1$y:é ") (r : Int) = (⟨#[c]⟩ : Str) := by
  intro r h
  refine ⟨sgn.getD r 0, ?_, ?_⟩
  · revert r; decide +kernel
  · revert r; decide +kernel
theorem nat_of {r k : Int} (_ : r < k) (h0 : 0 ≤ r) : ∃ n : Nat, r = n := ⟨r.toNat, by omega⟩
theorem off_C {C1 C2 : Addr} {o1 : Obj} (c1 : C1 < C2) : ∀ p ∈ [(C1, o1)], p.1 ≠ C2 := by
  intro p hp
  rw [List.mem_singleton] at hp
  subst hp
  exact Nat.ne_of_lt c1
theorem eqv_texts : ∀ ws : List Str, PyData.eqvAll (ws.map PyData.str) (ws.map PyData.str) = true
  | [] => by simp [PyData.eqvAll]
  | _ :: r => by simp [PyData.eqvAll, PyData.eqv, eqv_texts r]
theorem lay_texts : ∀ ws : List Str, ws.all PyData.strOk = true → PyData.canLayAll0 (ws.map PyData.str) = true
  | [], _ => rfl
  | w :: r, h => by
    simp only [List.all_cons, Bool.and_eq_true] at h
    simp [PyData.canLayAll0, PyData.canLay0, h.1, lay_texts r h.2]
theorem depth_texts : ∀ ws : List Str, PyData.depthAll (ws.map PyData.str) = 0
  | [] => rfl
  | _ :: r => by simp [PyData.depthAll, PyData.depth, depth_texts r]
theorem shaped_texts (ws : List Str) (h : ws.all PyData.strOk = true) : SeqAt.shaped (.list (ws.map PyData.str)) = true := by
  simp [SeqAt.shaped, PyData.canLay0, PyData.depth, lay_texts ws h, depth_texts]
theorem ok_row (a n : Nat) : ((List.range n).map fun i => (⟨(lettersL 5 (a + i)).toArray⟩ : Str)).all PyData.strOk = true := by
  rw [List.all_eq_true]
  intro w hw
  obtain ⟨i, _, rfl⟩ := List.mem_map.mp hw
  show (lettersL 5 (a + i)).toArray.all (fun c => decide (c < 0x110000)) = true
  rw [Array.all_eq_true]
  intro j hj
  have := lettersL_az 5 (a + i) _ (List.getElem_mem (l := lettersL 5 (a + i)) (n := j) (by simpa using hj))
  simp only [List.getElem_toArray, decide_eq_true_eq]
  omega
theorem strs_at {x : Str} : ∀ {vs : List Value} {ws : List Str} {i : Nat}, StrsAre vs ws → ws[i]? = some x → ∃ t, vs[i]? = some (.str x t)
  | _, _, 0, .cons y t r, h => by cases h; exact ⟨t, rfl⟩
  | _, _, i + 1, .cons y t r, h => by simpa using strs_at (i := i) r (by simpa using h)
section
variable {prog : Program} {w : World} {A : Around} {E : Value → Shared → Prop} {s : Shared} {h₀ : Heap} {L : Addr} {news : List (Addr × Obj)}
theorem ne_texts {a b : Addr} {xs ys : List Value} {ws : List Str} {ca cb : Nat} {Q : Value → Shared → Prop} (N : News h₀ L s.heap news) (ha : (a, W.listOf xs.toArray ca) ∈ news) (hb : (b, W.listOf ys.toArray cb) ∈ news)
    (hi : StrsAre xs ws) (hj : StrsAre ys ws) (hok : ws.all PyData.strOk = true) (hu : A.units + 64 < cLine) (h : Q (.bool false) s) : wpAny (model prog w) A (compareOp .NotEq (.ref a) (.ref b)) Q E s := by
  refine ne_dataH (reads_newData ⟨_, (N _ ha).1, rfl, _, rfl⟩ hi.carried) (reads_newData ⟨_, (N _ hb).1, rfl, _, rfl⟩ hj.carried) (shaped_texts _ hok) (shaped_texts _ hok) hu ?_
  rw [show PyData.eqv (.list (ws.map PyData.str)) (.list (ws.map PyData.str)) = true by simp only [PyData.eqv]; exact eqv_texts ws]
  exact h
theorem item_first {value slice : PySem.Expr} {l : Addr} {vs : List Value} {ws : List Str} {x : Str} {c : Nat} {u : Tok} {Q : Value → Shared → Prop} (N : News h₀ L s.heap news) (hm : (l, W.listOf vs.toArray c) ∈ news) (hi : StrsAre vs ws) (hx : ws[0]? = some x) (h : ∀ t, Q (.str x t) s)
    (hs : subscripted slice false (.ref l) (.int 0 u) = operate [.ref l, .int 0 u] (getItem (.ref l) (.int 0 u)) := by with_unfolding_all rfl) :
    wpAny (model prog w) A (subscriptTail value slice (.ref l) (.int 0 u)) Q E s := by
  have hL : s.heap.IsList l vs.toArray := ⟨_, (N _ hm).1, rfl, _, rfl⟩
  obtain ⟨t, ht⟩ := strs_at hi hx
  exact tail_any hL.typeIs slot_list_getitem.lookup (wpAny_getItem_list hL (by omega) (by omega) (by simpa using ht) (h t)) hs
theorem item_last {value slice : PySem.Expr} {l : Addr} {vs : List Value} {ws : List Str} {x : Str} {c : Nat} {u : Tok} {Q : Value → Shared → Prop} (N : News h₀ L s.heap news) (hm : (l, W.listOf vs.toArray c) ∈ news) (hi : StrsAre vs ws) (hx : ws[ws.length - 1]? = some x) (h : ∀ t, Q (.str x t) s)
    (hs : subscripted slice false (.ref l) (.int (-1) u) = operate [.ref l, .int (-1) u] (getItem (.ref l) (.int (-1) u)) := by with_unfolding_all rfl) :
    wpAny (model prog w) A (subscriptTail value slice (.ref l) (.int (-1) u)) Q E s := by
  have hL : s.heap.IsList l vs.toArray := ⟨_, (N _ hm).1, rfl, _, rfl⟩
  obtain ⟨t, ht⟩ := strs_at hi hx
  have hl := strsAre_len hi
  have hp : 0 < ws.length := by
    cases hw : ws with
    | nil => rw [hw] at hx; cases hx
    | cons _ _ => simp
  refine tail_any hL.typeIs slot_list_getitem.lookup (wpAny_getItem_list_neg hL (by omega) (by simp only [List.size_toArray]; omega) (by omega) ?_ (h t)) hs
  rw [← ht]
  simp only [List.size_toArray, List.getElem?_toArray]
  congr 1
  omega
end
local macro_rules | `(tactic| walk_at "compareOp NotEq ref ref") => `(tactic| (k_here; (with_reducible show wpAny _ _ (compareOp CmpOp.NotEq (Value.ref _) (Value.ref _)) _ _ _); k_dflt (refine' ne_texts ?N ?ka ?kb ?ki ?kj ?ko ?ku ?_; (case N => k_asm); (case ka => k_mem); (case kb => k_mem); (case ki => assumption); (case kj => assumption); (case ko => assumption); (case ku => ke_room))))
local macro_rules | `(tactic| walk_at "subscriptTail") => `(tactic| (k_here; (with_reducible show wpAny _ _ (subscriptTail _ _ (Value.ref _) (Value.int 0 _)) _ _ _); (with_unfolding_all refine' item_first ?N ?ka ?ki ?kx ?_ ?ks; (case ks => rfl); (case N => k_asm); (case ka => k_mem); (case ki => assumption); (case kx => assumption)); intro t9))
local macro_rules | `(tactic| walk_at "subscriptTail") => `(tactic| (k_here; (with_reducible show wpAny _ _ (subscriptTail _ _ (Value.ref _) (Value.int (-1) _)) _ _ _); (with_unfolding_all refine' item_last ?N ?ka ?ki ?kx ?_ ?ks; (case ks => rfl); (case N => k_asm); (case ka => k_mem); (case ki => assumption); (case kx => assumption)); intro t9))
local macro_rules | `(tactic| walk_at "M call") => `(tactic| (k_here; (with_reducible show wpAny _ _ (call (Value.ref 59) [Value.int _ _, Value.int _ _]) _ _ _); k_dflt (refine' interval_c ?B ?F ?X ?N ?T ?hA ?hf ?hke ?hh ?hd ?hu ?ha ?hb ?hn ?h8 ?_; (case hA => exact rfl); (case hf => exact rfl); (case hke => exact rfl); (case hh => exact rfl); (case B => k_asm); (case F => k_asm); (case X => k_asm); (case N => k_asm); (case T => k_asm); (case hd => ktr_room); (case hu => ktr_units); (case hb => assumption); (case ha => omega); (case hn => omega); (case h8 => omega)); intro D9 us9 h9 tk9 hs9 F9 N9 o9))
local macro_rules | `(tactic| walk_at "M call") => `(tactic| ((with_reducible show wpAny _ _ (call (Value.ref 59) [Value.str _ _, Value.str _ _]) _ _ _); (try rw [lower_az (lettersL_az 5 _)]); k_dflt (refine' interval_s ?B ?F ?X ?N ?T ?XB ?TB ?hA ?hf ?hke ?hh ?hd ?hu ?hx ?hux ?hul ?hvx ?hz ?huz ?hzl ?hvz ?ha ?hb ?hn ?h8 ?_; (case hA => exact rfl); (case hf => exact rfl); (case hke => exact rfl); (case hh => exact rfl); (case B => k_asm); (case F => k_asm); (case X => k_asm); (case N => k_asm); (case T => k_asm); (case XB => assumption); (case TB => assumption); (case hd => ktr_room); (case hu => ktr_units); (case hux => assumption); (case hul => assumption); (case hvx => assumption); (case huz => assumption); (case hzl => assumption); (case hvz => assumption); (case hb => assumption); (case hx => assumption); (case hz => assumption); (case ha => assumption); (case hn => assumption); (case h8 => assumption)); intro D9 us9 h9 tk9 hs9 F9 N9 o9))
theorem row_mem {r q : Int} (h0 : 0 ≤ r) (h1 : r < 4) (h2 : 0 ≤ q) (h3 : q < 3) : [0, 1, 10, 1048576].getD r.toNat 0 + q ∈ rowL.map (·.1) := by
  have hq : q = 0 ∨ q = 1 ∨ q = 2 := by omega
  have hr : r = 0 ∨ r = 1 ∨ r = 2 ∨ r = 3 := by omega
  rcases hr with rfl | rfl | rfl | rfl <;> rcases hq with rfl | rfl | rfl <;> decide
theorem text_0 : Str.ofString "" = ⟨(mk1 false).toArray⟩ := by decide +kernel
theorem text_1 : Str.ofString "$" = ⟨(mk1 true).toArray⟩ := by decide +kernel
theorem row_rng {r : Int} (h : r ∈ rowL.map (·.1)) : 0 ≤ r ∧ r ≤ 1048578 := by
  have : (rowL.map (·.1)).all (fun r => decide (0 ≤ r ∧ r ≤ 1048578)) = true := by decide
  simpa using List.all_eq_true.mp this r h
theorem len_mk1 (b : Bool) : Str.length ⟨(mk1 b).toArray⟩ ≤ 1 := by rw [len_mk]; cases b <;> decide
theorem mk_app (a b : List Nat) : (⟨a.toArray⟩ : Str) ++ ⟨b.toArray⟩ = ⟨(a ++ b).toArray⟩ := by
  apply congrArg Str.mk
  simp
theorem told66_s {w : World} {p : Program} {loose : List Str} {mean : ExcName → Option Value} {mg mb : Str → Option Value}
    {A A₀ : Around} {env : Env} {base h₀ : Heap} {L : Addr} {m : Str → Option Value} {news : List (Addr × Obj)} {s : Shared}
    {Q E : Value → Shared → Prop} {a b : Bool} {x d : List Nat} {t : Tok}
    (B : Below A₀ base [] h₀) (F : Fr h₀ L s.heap m) (X : (Mine.hd.heap_39 w.params).In h₀)
    (N : News h₀ L s.heap news) (T : Top p loose mean mg mb h₀) (XB : (Mine.hd.heap_39 w.params).In base) (TB : Top p loose mean mg mb base)
    (hA : A.frames = some [env]) (hf : env.frame = some L) (hke : env.scope.kind = .function) (hh : A.handled = none)
    (hd : A.depth + 20 < recursionLimit) (hu : A.units + 160 < cLine) (hx : Letters x) (hdd : Digits d) (hv : 0 < NumText.digitsVal d)
    (hret : ∀ D h' t1 t2 tk', Fr h₀ L h' m → News h₀ L h' ((D, ({ cls := .type "tuple", data := .seq #[.str ⟨x.toArray⟩ t1, .int ((NumText.digitsVal d : Nat) : Int) t2] } : Obj)) :: news) → (∀ p ∈ news, p.1 < D) → Q (.ref D) { s with heap := h', toks := tk' }) :
    wpAny (model PySem.Challenge.rw_ez0207_01.row.prog w) A (call (.ref 126) [.ref 66, .str ⟨(placeL a b x d).toArray⟩ t]) Q E s :=
  told66_c B F X N T XB TB hA hf hke hh hd hu hx hdd (fun _ => hret) (fun hz => absurd hz (by omega))
theorem told66_z {w : World} {p : Program} {loose : List Str} {mean : ExcName → Option Value} {mg mb : Str → Option Value}
    {A A₀ : Around} {env : Env} {base h₀ : Heap} {L : Addr} {m : Str → Option Value} {news : List (Addr × Obj)} {s : Shared}
    {Q E : Value → Shared → Prop} {a b : Bool} {x d : List Nat} {t : Tok}
    (B : Below A₀ base [] h₀) (F : Fr h₀ L s.heap m) (X : (Mine.hd.heap_39 w.params).In h₀)
    (N : News h₀ L s.heap news) (T : Top p loose mean mg mb h₀) (XB : (Mine.hd.heap_39 w.params).In base) (TB : Top p loose mean mg mb base)
    (hA : A.frames = some [env]) (hf : env.frame = some L) (hke : env.scope.kind = .function) (hh : A.handled = none)
    (hd : A.depth + 20 < recursionLimit) (hu : A.units + 160 < cLine) (hx : Letters x) (hdd : Digits d) (hv : NumText.digitsVal d = 0)
    (hnone : ∀ h' tk', Fr h₀ L h' m → News h₀ L h' news → Q .none { s with heap := h', toks := tk' }) :
    wpAny (model PySem.Challenge.rw_ez0207_01.row.prog w) A (call (.ref 126) [.ref 66, .str ⟨(placeL a b x d).toArray⟩ t]) Q E s :=
  told66_c B F X N T XB TB hA hf hke hh hd hu hx hdd (fun hz => absurd hz (by omega)) (fun _ => hnone)
local macro_rules | `(tactic| walk_at "M call") => `(tactic| (k_here; (with_reducible show wpAny _ _ (call (Value.ref 126) [Value.ref 66, Value.str _ _]) _ _ _); k_dflt (refine' told66_s ?B ?F ?X ?N ?T ?XB ?TB ?hA ?hf ?hke ?hh ?hd ?hu ?hx ?hdd ?hv ?_; (case hA => exact rfl); (case hf => exact rfl); (case hke => exact rfl); (case hh => exact rfl); (case B => k_asm); (case F => k_asm); (case X => k_asm); (case N => k_asm); (case T => k_asm); (case XB => assumption); (case TB => assumption); (case hd => ktr_room); (case hu => ktr_units); (case hx => assumption); (case hdd => assumption); (case hv => assumption)); intro D9 h9 t91 t92 tk9 F9 N9 l9))
local macro_rules | `(tactic| walk_at "M call") => `(tactic| (k_here; (with_reducible show wpAny _ _ (call (Value.ref 126) [Value.ref 66, Value.str _ _]) _ _ _); k_dflt (refine' told66_z ?B ?F ?X ?N ?T ?XB ?TB ?hA ?hf ?hke ?hh ?hd ?hu ?hx ?hdd ?hv ?_; (case hA => exact rfl); (case hf => exact rfl); (case hke => exact rfl); (case hh => exact rfl); (case B => k_asm); (case F => k_asm); (case X => k_asm); (case N => k_asm); (case T => k_asm); (case XB => assumption); (case TB => assumption); (case hd => ktr_room); (case hu => ktr_units); (case hx => assumption); (case hdd => assumption); (case hv => assumption)); intro h9 tk9 F9 N9))
local macro_rules | `(tactic| walk_at "M call") => `(tactic| (k_here; (with_reducible show wpAny _ _ (call (Value.ref 126) [Value.ref 66, Value.str _ _]) _ _ _); k_dflt (refine' told66_f ?B ?F ?X ?N ?T ?XB ?TB ?hA ?hf ?hke ?hh ?hd ?hu ?hx ?hxl ?_; (case hA => exact rfl); (case hf => exact rfl); (case hke => exact rfl); (case hh => exact rfl); (case B => k_asm); (case F => k_asm); (case X => k_asm); (case N => k_asm); (case T => k_asm); (case XB => assumption); (case TB => assumption); (case hd => ktr_room); (case hu => ktr_units); (case hx => assumption); (case hxl => assumption)); intro h9 tk9 F9 N9))
local macro_rules | `(tactic| walk_at "M call") => `(tactic| (k_here; (with_reducible show wpAny _ _ (call (Value.ref 73) [Value.str _ _]) _ _ _); k_dflt (refine' abs_c ?B ?F ?X ?N ?T ?hA ?hf ?hke ?hh ?hd ?hu ?hx ?hdd ?_; (case hA => exact rfl); (case hf => exact rfl); (case hke => exact rfl); (case hh => exact rfl); (case B => k_asm); (case F => k_asm); (case X => k_asm); (case N => k_asm); (case T => k_asm); (case hd => ktr_room); (case hu => ktr_units); (case hx => assumption); (case hdd => assumption)); intro t9 h9 tk9 F9 N9))
local macro_rules | `(tactic| walk_at "M call") => `(tactic| (k_here; (with_reducible show wpAny _ _ (call (Value.ref 98) [Value.str _ _]) _ _ _); (try rw [‹Str.ofString (toString _) = _›, mk_app]); k_dflt (refine' tuple_c ?B ?F ?X ?N ?T ?XB ?TB ?hA ?hf ?hke ?hh ?hd ?hu ?hx ?hdd ?hux ?hul ?hv ?_; (case hA => exact rfl); (case hf => exact rfl); (case hke => exact rfl); (case hh => exact rfl); (case B => k_asm); (case F => k_asm); (case X => k_asm); (case N => k_asm); (case T => k_asm); (case XB => assumption); (case TB => assumption); (case hd => ktr_room); (case hu => ktr_units); (case hx => assumption); (case hdd => assumption); (case hux => assumption); (case hul => assumption); (case hv => assumption)); intro D9 h9 t91 t92 tk9 F9 N9 l9))
theorem abs_eq {r : Int} {x d : List Nat} (hd : Str.ofString (toString r) = ⟨d.toArray⟩) : Str.ofString "$" ++ ⟨x.toArray⟩ ++ Str.ofString "$" ++ Str.ofString (toString r) = ⟨(36 :: x ++ 36 :: d).toArray⟩ := by
  rw [hd, text_1, mk_app, mk_app, mk_app]
  simp [mk1]
theorem ok_letters {x : List Nat} (h : ∀ c ∈ x, (65 ≤ c ∧ c ≤ 90) ∨ (97 ≤ c ∧ c ≤ 122)) : PyData.strOk ⟨x.toArray⟩ = true := by
  show x.toArray.all (fun c => decide (c < 0x110000)) = true
  rw [Array.all_eq_true]
  intro j hj
  have := h _ (List.getElem_mem (l := x) (n := j) (by simpa using hj))
  simp only [List.getElem_toArray, decide_eq_true_eq]
  omega
section
variable {prog : Program} {w : World} {A : Around} {E : Value → Shared → Prop} {s : Shared} {h₀ : Heap} {L : Addr} {news : List (Addr × Obj)}
theorem ne_pair_si {a b : Addr} {x : Str} {k : Int} {t t' u u' : Tok} {na nb : Nat} {Q : Value → Shared → Prop} (N : News h₀ L s.heap news)
    (ha : (a, ({ cls := .type "tuple", data := .seq #[.str x t, .int k u] na } : Obj)) ∈ news) (hb : (b, ({ cls := .type "tuple", data := .seq #[.str x t', .int k u'] nb } : Obj)) ∈ news)
    (hok : PyData.strOk x = true) (hu : A.units + 64 < cLine) (h : Q (.bool false) s) : wpAny (model prog w) A (compareOp .NotEq (.ref a) (.ref b)) Q E s := by
  have hs : SeqAt.shaped (.tuple [PyData.str x, .int k]) = true := by simp [SeqAt.shaped, PyData.canLay0, PyData.canLayAll0, PyData.depth, PyData.depthAll, hok]
  refine ne_dataH (reads_newDataT (ys := [_, _]) ⟨_, (N _ ha).1, rfl, _, rfl⟩ (.cons (.str x t) (.cons (.int k u) .nil))) (reads_newDataT (ys := [_, _]) ⟨_, (N _ hb).1, rfl, _, rfl⟩ (.cons (.str x t') (.cons (.int k u') .nil))) hs hs hu ?_
  rw [show PyData.eqv (.tuple [PyData.str x, .int k]) (.tuple [PyData.str x, .int k]) = true by simp [PyData.eqv, PyData.eqvAll]]
  exact h
theorem ne_pair_ii {a b : Addr} {j k : Int} {t t' u u' : Tok} {na nb : Nat} {Q : Value → Shared → Prop} (N : News h₀ L s.heap news)
    (ha : (a, ({ cls := .type "tuple", data := .seq #[.int j t, .int k u] na } : Obj)) ∈ news) (hb : (b, ({ cls := .type "tuple", data := .seq #[.int j t', .int k u'] nb } : Obj)) ∈ news)
    (hu : A.units + 64 < cLine) (h : Q (.bool false) s) : wpAny (model prog w) A (compareOp .NotEq (.ref a) (.ref b)) Q E s := by
  have hs : SeqAt.shaped (.tuple [PyData.int j, .int k]) = true := by simp [SeqAt.shaped, PyData.canLay0, PyData.canLayAll0, PyData.depth, PyData.depthAll]
  refine ne_dataH (reads_newDataT (ys := [_, _]) ⟨_, (N _ ha).1, rfl, _, rfl⟩ (.cons (.int j t) (.cons (.int k u) .nil))) (reads_newDataT (ys := [_, _]) ⟨_, (N _ hb).1, rfl, _, rfl⟩ (.cons (.int j t') (.cons (.int k u') .nil))) hs hs hu ?_
  rw [show PyData.eqv (.tuple [PyData.int j, .int k]) (.tuple [PyData.int j, .int k]) = true by simp [PyData.eqv, PyData.eqvAll]]
  exact h
end
local macro_rules | `(tactic| walk_at "compareOp NotEq ref ref") => `(tactic| (k_here; (with_reducible show wpAny _ _ (compareOp CmpOp.NotEq (Value.ref _) (Value.ref _)) _ _ _); k_dflt (refine' ne_pair_ii ?N ?ka ?kb ?ku ?_; (case N => k_asm); (case ka => k_mem); (case kb => k_mem); (case ku => ke_room))))
local macro_rules | `(tactic| walk_at "compareOp NotEq ref ref") => `(tactic| (k_here; (with_reducible show wpAny _ _ (compareOp CmpOp.NotEq (Value.ref _) (Value.ref _)) _ _ _); k_dflt (refine' ne_pair_si ?N ?ka ?kb ?ko ?ku ?_; (case N => k_asm); (case ka => k_mem); (case kb => k_mem); (case ko => assumption); (case ku => ke_room))))
theorem text_x : Str.ofString "x" = ⟨[120].toArray⟩ := by decide +kernel
theorem text_dd : Str.ofString "$$" = ⟨[36, 36].toArray⟩ := by decide +kernel
theorem text_ab : Str.ofString "A1B" = ⟨[65, 49, 66].toArray⟩ := by decide +kernel
/-- a text that is no place's name -/
def OtherV (v : Value) : Prop := ∃ (y : List Nat) (t : Tok), v = .str ⟨y.toArray⟩ t ∧ NoPlace y ∧ y.length ≤ 16
theorem other_of {y : List Nat} {s : Str} (e : s = ⟨y.toArray⟩) (h : NoPlace y) (hl : y.length ≤ 16) (t : Tok) : OtherV (.str s t) := ⟨y, t, by rw [e], h, hl⟩
set_option maxHeartbeats 4000000 in
theorem law_t : PySem.Challenge.rw_ez0207_01.Holds := by
  refine Mine.hd ?_
  k_go0
  all_goals (try k_fold)
  walk1
  rename (Fr _ _ _ _) => F1
  refine cutG F1 (LawR [Str.ofString "script"] (fun fv l ex => fv = none ∧ l = [] ∧ ex = [])) ?_ ?_
  · walk_at "M law"
    rename (IntsAre _ (List.take 40 _)) => hI9
    rename (Fr _ _ _ _) => F9
    rename (News _ _ _ _) => N9
    rename (Obj.data _ = Data.cell (some (Value.ref _))) => d9
    refine cut_I F9 (l := []) ?_ (ex := []) N9 (lawSt0 _ _ _) (scrOk_of hI9) d9 (fv := none) ?_ ?_ ?_ ?_ ⟨rfl, rfl, rfl⟩
    · intro y hy
      have hy' : y ≠ Str.ofString "script" := fun q => by rw [q] at hy; cases hy
      show (if y = Str.ofString "script" then some _ else none) = none
      rw [if_neg hy']
    · with_unfolding_all assumption
    · show @LT.lt Nat _ _ _
      omega
    · show @LT.lt Nat _ _ _
      omega
    · intro p hp
      cases hp
  clear F1
  rintro h tk ⟨ST, SC, st, os, o1, o2, U, l, ex, fv, F1, N1, hst, hos, d1, d2, c1, c2, c3, c4, rfl, rfl, rfl⟩
  dsimp only
  simp only [List.nil_append, List.cons_append] at N1
  have q1 : (@LT.lt Nat _ SC ST) ∧ (@LT.lt Nat _ _ ST) ∧ (@LT.lt Nat _ _ ST) := ⟨c3, Nat.lt_trans c2 c3, Nat.lt_trans c1 (Nat.lt_trans c2 c3)⟩
  have q2 : (@LT.lt Nat _ _ SC) ∧ (@LT.lt Nat _ _ SC) := ⟨c2, Nat.lt_trans c1 c2⟩
  have q3 := offs_of (os := os) (o2 := o2) (o1 := o1) c1 c2 c3
  walk1
  refine cutG F1 (LawR [Str.ofString "script"] (fun fv l ex => fv = none ∧ ex = [] ∧ ∃ number t, -1 ≤ number ∧ number ≤ 18280 ∧ l = [(Str.ofString "number", .int number t)])) ?_ ?_
  · walk_at "M law"
    rename (LawSt SC _) => hs9
    rename (Fr _ _ _ (fun y => if y = Str.ofString "number" then _ else _)) => F9
    rename (News _ _ _ _) => N9
    exact cut_I F9 (holP holB) (ex := []) (fun p hp => N9 p (.tail _ hp)) hs9 hos d1 d2 c2 c3 c4 ⟨rfl, rfl, _, _, (num_rng (by assumption) (by assumption) (by assumption) (by assumption)).1, (num_rng (by assumption) (by assumption) (by assumption) (by assumption)).2, rfl⟩
  clear F1 N1 hst hos d1 d2 c1 c2 c3 c4 q1 q2 q3 ; clear ST SC st os o1 o2 U
  rintro h tk ⟨ST, SC, st, os, o1, o2, U, l, ex, fv, F1, N1, hst, hos, d1, d2, c1, c2, c3, c4, rfl, rfl, number, tn, n0, n1, rfl⟩
  dsimp only
  simp only [List.nil_append, List.cons_append] at N1
  have q1 : (@LT.lt Nat _ SC ST) ∧ (@LT.lt Nat _ _ ST) ∧ (@LT.lt Nat _ _ ST) := ⟨c3, Nat.lt_trans c2 c3, Nat.lt_trans c1 (Nat.lt_trans c2 c3)⟩
  have q2 : (@LT.lt Nat _ _ SC) ∧ (@LT.lt Nat _ _ SC) := ⟨c2, Nat.lt_trans c1 c2⟩
  have q3 := offs_of (os := os) (o2 := o2) (o1 := o1) c1 c2 c3
  walk1
  refine cutG F1 (LawR [Str.ofString "script"] (fun fv l ex => fv = none ∧ ex = [] ∧ ∃ number t v, NameV number v ∧ -1 ≤ number ∧ number ≤ 18280 ∧ l = [(Str.ofString "number", .int number t), (Str.ofString "name", v)])) ?_ ?_
  · by_cases hk : 1 ≤ number ∧ number ≤ 18278
    · obtain ⟨ha, hb⟩ := hk
      walk_at "M law"
      rename (Fr _ _ _ (fun y => if y = Str.ofString "name" then _ else _)) => F9
      rename (News _ _ _ _) => N9
      exact cut_I F9 (holP holB) (ex := []) N9 hst hos d1 d2 c2 c3 c4 ⟨rfl, rfl, _, _, _, .inl ⟨ha, hb, _, rfl⟩, n0, n1, rfl⟩
    · rcases (show number = 0 ∨ number = -1 ∨ 18278 < number by omega) with rfl | rfl | hk9
      all_goals walk_at "M law"
      all_goals (rename (Fr _ _ _ (fun y => if y = Str.ofString "name" then _ else _)) => F9; rename (News _ _ _ _) => N9)
      all_goals exact cut_I F9 (holP holB) (ex := []) N9 hst hos d1 d2 c2 c3 c4 ⟨rfl, rfl, _, _, _, .inr ⟨hk, rfl⟩, n0, n1, rfl⟩
  clear F1 N1 hst hos d1 d2 c1 c2 c3 c4 q1 q2 q3 n0 n1 number tn; clear ST SC st os o1 o2 U
  rintro h tk ⟨ST, SC, st, os, o1, o2, U, l, ex, fv, F1, N1, hst, hos, d1, d2, c1, c2, c3, c4, rfl, rfl, number, tn, v, hv, n0, n1, rfl⟩
  dsimp only
  simp only [List.nil_append, List.cons_append] at N1
  have q1 : (@LT.lt Nat _ SC ST) ∧ (@LT.lt Nat _ _ ST) ∧ (@LT.lt Nat _ _ ST) := ⟨c3, Nat.lt_trans c2 c3, Nat.lt_trans c1 (Nat.lt_trans c2 c3)⟩
  have q2 : (@LT.lt Nat _ _ SC) ∧ (@LT.lt Nat _ _ SC) := ⟨c2, Nat.lt_trans c1 c2⟩
  have q3 := offs_of (os := os) (o2 := o2) (o1 := o1) c1 c2 c3
  walk1
  refine cutG F1 (LawR [Str.ofString "script"] (fun fv l ex => fv = none ∧ ex = [] ∧ ∃ number t v, NameV number v ∧ -1 ≤ number ∧ number ≤ 18280 ∧ l = [(Str.ofString "number", .int number t), (Str.ofString "name", v)])) ?_ ?_
  · rcases hv with ⟨ha, hb, t5, rfl⟩ | ⟨hk, rfl⟩
    · walk_at "M law"
      · rename ((_ != _) = true) => a9
        exact absurd a9 (by simp)
      · rename (Fr _ _ _ _) => F9
        rename (News _ _ _ _) => N9
        exact cut_I F9 holB (ex := []) N9 hst hos d1 d2 c2 c3 c4 ⟨rfl, rfl, _, _, _, .inl ⟨ha, hb, _, rfl⟩, n0, n1, rfl⟩
    · walk_at "M law"
      rename (Fr _ _ _ _) => F9
      rename (News _ _ _ _) => N9
      exact cut_I F9 holB (ex := []) N9 hst hos d1 d2 c2 c3 c4 ⟨rfl, rfl, _, _, _, .inr ⟨hk, rfl⟩, n0, n1, rfl⟩
  clear F1 N1 hst hos d1 d2 c1 c2 c3 c4 q1 q2 q3 hv n0 n1 number tn v; clear ST SC st os o1 o2 U
  rintro h tk ⟨ST, SC, st, os, o1, o2, U, l, ex, fv, F1, N1, hst, hos, d1, d2, c1, c2, c3, c4, rfl, rfl, number, tn, v, hv, n0, n1, rfl⟩
  dsimp only
  simp only [List.nil_append, List.cons_append] at N1
  have q1 : (@LT.lt Nat _ SC ST) ∧ (@LT.lt Nat _ _ ST) ∧ (@LT.lt Nat _ _ ST) := ⟨c3, Nat.lt_trans c2 c3, Nat.lt_trans c1 (Nat.lt_trans c2 c3)⟩
  have q2 : (@LT.lt Nat _ _ SC) ∧ (@LT.lt Nat _ _ SC) := ⟨c2, Nat.lt_trans c1 c2⟩
  have q3 := offs_of (os := os) (o2 := o2) (o1 := o1) c1 c2 c3
  walk1
  refine cutG F1 (LawR [Str.ofString "script"] (fun fv l ex => fv = none ∧ ex = [] ∧ ∃ a b, l = [(Str.ofString "number", a), (Str.ofString "name", b)])) ?_ ?_
  · rcases hv with ⟨ha, hb, t5, rfl⟩ | ⟨hk, rfl⟩
    · have hLl := lettersL_len number.toNat (by omega) (by omega)
      have hL3 := hLl.2
      have hLz := lettersL_az 5 number.toNat
      have hl1 : Str.length ⟨(lettersL 5 number.toNat).toArray⟩ ≤ 3 := by rw [len_mk]; exact hLl.2
      have q4 : SC ≠ ST := Nat.ne_of_lt c3
      have q5 : ∀ p ∈ [(_, o2), (_, o1)], p.1 ≠ ST := fun p hp => q3 p (.tail _ hp)
      walk_at "M law"
      refine ListComp_Tu (by assumption) rfl (by decide) rfl (by decide) rfl ?_
      walk_at "M law"
      rename (MixedL _ _) => hm9
      rename (LawSt SC _) => hs9
      rename (Fr _ _ _ _) => F9
      rename (News _ _ _ _) => N9
      refine ⟨_, _, _, _, rfl, rfl, F9, N9, .head _, by show 3 ≤ sizeLine; rw [sizeLine_eq]; omega, fun g => ?_⟩
      have hnum : numV (lettersL 5 number.toNat) (lettersL 5 number.toNat).length = some number := by rw [numV_letters _ (by omega) (by omega)]; congr 1; omega
      refine comp_ind (fun i ys nw => nw = _ ∧ IntsAre ys (List.replicate i number)) ⟨rfl, .nil⟩ ?_ ?_
      · rintro i ys news' hi ⟨rfl, hs⟩ v I oI C oC D m₂ h tk E' hv hC hm F2 N2 off ne
        obtain ⟨x, tx, rfl, a1, a2, a3⟩ := idx3 hLz hL3 hm9 i v hv
        have a4 : numV (lettersL 5 number.toNat) x.length = some number := by rw [← a3]; exact hnum
        walk_at "M law"
        rename (Fr _ _ _ _) => F9
        rename (News _ _ _ _) => N9
        refine LCg.CompEnd.intro F9 N9 _ (fun _ h => h) off (.head _) ⟨rfl, ?_⟩
        rw [List.replicate_succ']
        exact ints_snoc hs
      · rintro ys news' ⟨rfl, hs⟩
        intro D h tk F2 N2 off
        walk_at "M law"
        · rename (Fr _ _ _ _) => F9
          rename (News _ _ _ _) => N9
          exact cut_I F9 holB (ex := []) (fun p hp => N9 p (.tail _ (.tail _ (.tail _ (.tail _ hp))))) hs9 hos d1 d2 c2 c3 c4 ⟨rfl, rfl, _, _, rfl⟩
        · rename (¬ List.replicate _ _ = _) => a9
          exact absurd rfl a9
    · walk_at "M law"
      rename (Fr _ _ _ _) => F9
      rename (News _ _ _ _) => N9
      exact cut_I F9 holB (ex := []) N9 hst hos d1 d2 c2 c3 c4 ⟨rfl, rfl, _, _, rfl⟩
  clear F1 N1 hst hos d1 d2 c1 c2 c3 c4 q1 q2 q3 hv n0 n1 number tn v; clear ST SC st os o1 o2 U
  rintro h tk ⟨ST, SC, st, os, o1, o2, U, l, ex, fv, F1, N1, hst, hos, d1, d2, c1, c2, c3, c4, rfl, rfl, v1, v2, rfl⟩
  dsimp only
  simp only [List.nil_append, List.cons_append] at N1
  have q1 : (@LT.lt Nat _ SC ST) ∧ (@LT.lt Nat _ _ ST) ∧ (@LT.lt Nat _ _ ST) := ⟨c3, Nat.lt_trans c2 c3, Nat.lt_trans c1 (Nat.lt_trans c2 c3)⟩
  have q2 : (@LT.lt Nat _ _ SC) ∧ (@LT.lt Nat _ _ SC) := ⟨c2, Nat.lt_trans c1 c2⟩
  have q3 := offs_of (os := os) (o2 := o2) (o1 := o1) c1 c2 c3
  walk1
  refine cutG F1 (LawR [Str.ofString "script"] (fun fv l ex => fv = none ∧ ex = [] ∧ ∃ (a b : Value) (x : List Nat) (t : Tok), x.length ≤ 4 ∧ (∀ c ∈ x, c ∈ sgn) ∧ l = [(Str.ofString "number", a), (Str.ofString "name", b), (Str.ofString "text", .str ⟨x.toArray⟩ t)])) ?_ ?_
  · walk_at "M law"
    refine LCg.ListComp_U (by assumption) (cl := [(Str.ofString "state", _ + 1)]) rfl (by decide) rfl (by decide) rfl ?_
    walk_at "M law"
    rename (IsRange _ _ _ _ _ _ _ _) => hr
    rename (0 ≤ _) => hr0
    rename (_ < 5) => hr1
    rename (LawSt SC _) => hs9
    rename (Fr _ _ _ _) => F9
    rename (News _ _ _ _) => N9
    obtain ⟨n, hn⟩ : ∃ n : Nat, _ = (n : Int) := ⟨_, (Int.toNat_of_nonneg hr0).symm⟩
    subst hn
    refine LCg.CompSrc.range (n := n) rfl F9 N9 hr (small_one (by omega) (by omega) (by omega) (by omega)) (by rw [rangeSize_nat]; omega) (by rw [sizeLine_eq]; omega) (fun g => ?_)
    refine comp_ind (fun i ys nw => ∃ o' zs, nw = [(ST, o'), (SC, os), (_, o2), (_, o1)] ∧ LawSt SC o' ∧ zs.length = i ∧ (∀ c ∈ zs, c ∈ sgn) ∧ StrsAre ys (zs.map fun c => (⟨#[c]⟩ : Str))) ⟨_, [], rfl, hs9, rfl, (fun c h => nomatch h), .nil⟩ ?_ ?_
    · rintro i ys news' hi ⟨o', zs, rfl, hst1, hzl, hzs, hs⟩ v I oI C oC D m₂ h tk E' ⟨tv, rfl⟩ hC hm F2 N2 off ne
      simp only [LCg.Off3] at off
      walk_at "M law"
      rename (_ < 9) => hr9
      obtain ⟨r, rfl⟩ := nat_of hr9 (by assumption)
      obtain ⟨c, hc, ec⟩ := item_sgn r (by omega)
      rename (LawSt SC _) => hs9
      rename (Fr _ _ _ _) => F9
      rename (News _ _ _ _) => N9
      rw [ec]
      refine LCg.CompEnd.intro F9 N9 _ (fun _ h => h) (by simp only [LCg.Off3]; exact off) trivial ⟨_, zs ++ [c], rfl, hs9, by simp [hzl], ?_, by rw [List.map_append]; exact kct_snoc hs⟩
      intro d hd
      rcases List.mem_append.mp hd with hd | hd
      · exact hzs d hd
      · rw [List.mem_singleton.mp hd]; exact hc
    · rintro ys news' ⟨o', zs, rfl, hst1, hzl, hzs, hs⟩
      intro D h tk F2 N2 off
      walk_at "M law"
      have hlen := sum_ones (zs.map fun c => (⟨#[c]⟩ : Str)) (by intro x hx; obtain ⟨c, _, rfl⟩ := List.mem_map.mp hx; exact Nat.le_refl 1)
      rw [List.length_map] at hlen
      refine join_list (News.isList N2 (.head _)) hs (by rw [show (Str.ofString "").length = 0 from rfl]; omega) ?_
      rw [join0, flat_ones]
      intro t9 k9
      walk_at "M law"
      rename (Fr _ _ _ _) => F9
      rename (News _ _ _ _) => N9
      exact cut_I F9 (holP holB) (ex := []) (fun p hp => N9 p (.tail _ hp)) hst1 hos d1 d2 c2 c3 c4 ⟨rfl, rfl, _, _, zs, _, by omega, hzs, rfl⟩
  clear F1 N1 hst hos d1 d2 c1 c2 c3 c4 q1 q2 q3 v1 v2; clear ST SC st os o1 o2 U
  rintro h tk ⟨ST, SC, st, os, o1, o2, U, l, ex, fv, F1, N1, hst, hos, d1, d2, c1, c2, c3, c4, rfl, rfl, a, b, x, tx, hx, hxs, rfl⟩
  dsimp only
  simp only [List.nil_append, List.cons_append] at N1
  have q1 : (@LT.lt Nat _ SC ST) ∧ (@LT.lt Nat _ _ ST) ∧ (@LT.lt Nat _ _ ST) := ⟨c3, Nat.lt_trans c2 c3, Nat.lt_trans c1 (Nat.lt_trans c2 c3)⟩
  have q2 : (@LT.lt Nat _ _ SC) ∧ (@LT.lt Nat _ _ SC) := ⟨c2, Nat.lt_trans c1 c2⟩
  have q3 := offs_of (os := os) (o2 := o2) (o1 := o1) c1 c2 c3
  walk1
  refine cutG F1 (LawR [Str.ofString "script"] (fun fv l ex => fv = none ∧ ex = [] ∧ ∃ (a b c : Value), l = [(Str.ofString "number", a), (Str.ofString "name", b), (Str.ofString "text", c)])) ?_ ?_
  · have hux := upper_sgn hxs
    have hul : (x.map upS).length = x.length := List.length_map _
    cases hn : numV (x.map upS) x.length with
    | none =>
      walk_at "M law"
      rename (Fr _ _ _ _) => F9
      rename (News _ _ _ _) => N9
      exact cut_I F9 holB (ex := []) N9 hst hos d1 d2 c2 c3 c4 ⟨rfl, rfl, _, _, _, rfl⟩
    | some n =>
      walk_at "M law"
      · rename (_ ≠ _) => a9
        exact absurd rfl a9
      · rename (Fr _ _ _ _) => F9
        rename (News _ _ _ _) => N9
        exact cut_I F9 holB (ex := []) N9 hst hos d1 d2 c2 c3 c4 ⟨rfl, rfl, _, _, _, rfl⟩
  clear F1 N1 hst hos d1 d2 c1 c2 c3 c4 q1 q2 q3 hx hxs a b x tx; clear ST SC st os o1 o2 U
  rintro h tk ⟨ST, SC, st, os, o1, o2, U, l, ex, fv, F1, N1, hst, hos, d1, d2, c1, c2, c3, c4, rfl, rfl, v1, v2, v3, rfl⟩
  dsimp only
  simp only [List.nil_append, List.cons_append] at N1
  have q1 : (@LT.lt Nat _ SC ST) ∧ (@LT.lt Nat _ _ ST) ∧ (@LT.lt Nat _ _ ST) := ⟨c3, Nat.lt_trans c2 c3, Nat.lt_trans c1 (Nat.lt_trans c2 c3)⟩
  have q2 : (@LT.lt Nat _ _ SC) ∧ (@LT.lt Nat _ _ SC) := ⟨c2, Nat.lt_trans c1 c2⟩
  have q3 := offs_of (os := os) (o2 := o2) (o1 := o1) c1 c2 c3
  walk1
  refine cutG F1 (LawR [Str.ofString "script"] (fun fv l ex => ex = [] ∧ ∃ (v1 v2 v3 : Value) (a n : Nat) (t t' : Tok), 1 ≤ a ∧ a ≤ 18270 ∧ n < 8 ∧ fv = some (.int (a : Nat) t) ∧ l = [(Str.ofString "number", v1), (Str.ofString "name", v2), (Str.ofString "text", v3), (Str.ofString "many", .int (n : Nat) t')])) ?_ ?_
  · have q6 := off_C (o1 := o1) c1
    walk_at "M law"
    rename (_ < 18270) => hra
    rename (_ < 8) => hrb
    obtain ⟨a, rfl⟩ := nat_of hra (by assumption)
    obtain ⟨n, rfl⟩ := nat_of hrb (by assumption)
    rename (LawSt SC _) => hs9
    rename (Fr _ _ _ _) => F9
    rename (News _ _ _ _) => N9
    rename (Obj.data _ = Data.cell (some (Value.int _ _))) => d9
    rw [show 1 + (a : Int) = ((1 + a : Nat) : Int) by omega] at d9
    exact cut_I F9 (holP holB) (ex := []) (fun p hp => N9 p (.tail _ hp)) hs9 hos d1 d9 c2 c3 c4 ⟨rfl, _, _, _, 1 + a, n, _, _, by omega, by omega, by omega, rfl, rfl⟩
  clear F1 N1 hst hos d1 d2 c1 c2 c3 c4 q1 q2 q3 v1 v2 v3; clear ST SC st os o1 o2 U
  rintro h tk ⟨ST, SC, st, os, o1, o2, U, l, ex, fv, F1, N1, hst, hos, d1, d2, c1, c2, c3, c4, rfl, v1, v2, v3, a, n, ta, tn, ha0, ha1, hn, rfl, rfl⟩
  dsimp only
  simp only [List.nil_append, List.cons_append] at N1
  have q1 : (@LT.lt Nat _ SC ST) ∧ (@LT.lt Nat _ _ ST) ∧ (@LT.lt Nat _ _ ST) := ⟨c3, Nat.lt_trans c2 c3, Nat.lt_trans c1 (Nat.lt_trans c2 c3)⟩
  have q2 : (@LT.lt Nat _ _ SC) ∧ (@LT.lt Nat _ _ SC) := ⟨c2, Nat.lt_trans c1 c2⟩
  have q3 := offs_of (os := os) (o2 := o2) (o1 := o1) c1 c2 c3
  walk1
  refine cutG F1 (LawR [Str.ofString "script"] (fun fv l ex => ∃ (v1 v2 v3 : Value) (a n : Nat) (t t' : Tok) (DU : Addr) (us : List Value), 1 ≤ a ∧ a ≤ 18270 ∧ n < 8 ∧ fv = some (.int (a : Nat) t) ∧ StrsAre us ((List.range n).map fun i => (⟨(lettersL 5 (a + i)).toArray⟩ : Str)) ∧ ex = [(DU, W.listOf us.toArray us.length)] ∧ l = [(Str.ofString "number", v1), (Str.ofString "name", v2), (Str.ofString "text", v3), (Str.ofString "many", .int (n : Nat) t'), (Str.ofString "due", .ref DU)])) ?_ ?_
  · walk_at "M law"
    rename (IsRange _ _ _ _ _ _ _ _) => hr
    rename (Fr _ _ _ _) => F9
    rename (News _ _ _ _) => N9
    refine LCg.CompSrc.range (n := n) rfl F9 N9 hr (small_one (by omega) (by omega) (by omega) (by omega)) (by rw [rangeSize_nat]; omega) (by rw [sizeLine_eq]; omega) (fun g => ?_)
    refine comp_ind (fun i ys nw => nw = [(ST, st), (SC, os), (_, o2), (_, o1)] ∧ StrsAre ys ((List.range i).map fun i => (⟨(lettersL 5 (a + i)).toArray⟩ : Str))) ⟨rfl, .nil⟩ ?_ ?_
    · rintro i ys news' hi ⟨rfl, hs⟩ v I oI C oC D m₂ h tk E' ⟨tv, rfl⟩ hC hm F2 N2 off ne
      walk_at "M law"
      rename (Fr _ _ _ _) => F9
      rename (News _ _ _ _) => N9
      refine LCg.CompEnd.intro F9 N9 _ (fun _ h => h) off trivial ⟨rfl, ?_⟩
      rw [show ((a : Int) + (0 + (i : Int))).toNat = a + i by omega, List.range_succ, List.map_append]
      exact kct_snoc hs
    · rintro ys news' ⟨rfl, hs⟩
      intro D h tk F2 N2 off
      walk_at "M law"
      refine cut_I F2 (holP holB) (ex := [(D, LCg.lst ys)]) N2 hst hos d1 d2 c2 c3 ?_ ⟨_, _, _, a, n, _, _, D, ys, ha0, ha1, hn, rfl, hs, rfl, rfl⟩
      intro p hp
      rw [List.mem_singleton.mp hp]
      exact off.1.symm
  clear F1 N1 hst hos d1 d2 c1 c2 c3 c4 q1 q2 q3 ha0 ha1 hn v1 v2 v3 a n ta tn; clear ST SC st os o1 o2 U
  rintro h tk ⟨ST, SC, st, os, o1, o2, U, l, ex, fv, F1, N1, hst, hos, d1, d2, c1, c2, c3, c4, v1, v2, v3, a, n, ta, tn, DU, us, ha0, ha1, hn, rfl, hus, rfl, rfl⟩
  dsimp only
  simp only [List.nil_append, List.cons_append] at N1
  have q1 : (@LT.lt Nat _ SC ST) ∧ (@LT.lt Nat _ _ ST) ∧ (@LT.lt Nat _ _ ST) := ⟨c3, Nat.lt_trans c2 c3, Nat.lt_trans c1 (Nat.lt_trans c2 c3)⟩
  have q2 : (@LT.lt Nat _ _ SC) ∧ (@LT.lt Nat _ _ SC) := ⟨c2, Nat.lt_trans c1 c2⟩
  have q3 := offs_of (os := os) (o2 := o2) (o1 := o1) c1 c2 c3
  walk1
  refine cutG F1 (LawR [Str.ofString "script"] (fun fv l ex => ex = [] ∧ ∃ (v1 v2 v3 v4 v5 : Value) (a : Nat) (t : Tok), 1 ≤ a ∧ a ≤ 18270 ∧ fv = some (.int (a : Nat) t) ∧ l = [(Str.ofString "number", v1), (Str.ofString "name", v2), (Str.ofString "text", v3), (Str.ofString "many", v4), (Str.ofString "due", v5)])) ?_ ?_
  · have hok := ok_row a n
    have hb9 : ((a : Int) + (n : Int) - 1) + 1 = ((a + n : Nat) : Int) := by omega
    rcases Nat.eq_zero_or_pos n with rfl | hp
    · walk_at "M law"
      rename (Fr _ _ _ _) => F9
      rename (News _ _ _ _) => N9
      exact cut_I F9 holB (ex := []) (fun p hp => N9 p (.tail _ (.tail _ hp))) hst hos d1 d2 c2 c3 (fun p hp => nomatch hp) ⟨rfl, _, _, _, _, _, a, _, ha0, ha1, rfl, rfl⟩
    · have hl0 := lettersL_len a (by omega) (by omega)
      have hlz := lettersL_len (a + n - 1) (by omega) (by omega)
      have hl1 : Str.length ⟨(lettersL 5 a).toArray⟩ ≤ 3 := by rw [len_mk]; exact hl0.2
      have hl2 : Str.length ⟨(lettersL 5 (a + n - 1)).toArray⟩ ≤ 3 := by rw [len_mk]; exact hlz.2
      have hx0 : ((List.range n).map fun i => (⟨(lettersL 5 (a + i)).toArray⟩ : Str))[0]? = some ⟨(lettersL 5 a).toArray⟩ := by simp [hp]
      have hxz : ((List.range n).map fun i => (⟨(lettersL 5 (a + i)).toArray⟩ : Str))[((List.range n).map fun i => (⟨(lettersL 5 (a + i)).toArray⟩ : Str)).length - 1]? = some ⟨(lettersL 5 (a + n - 1)).toArray⟩ := by
        simp only [List.length_map, List.length_range, List.getElem?_map]
        rw [List.getElem?_range (by omega)]
        simp only [Option.map_some]
        rw [show a + (n - 1) = a + n - 1 by omega]
      have e1 : ((lettersL 5 a).map (· + 32)).length ≤ 4 := by rw [List.length_map]; omega
      have e2 := upper_mixed (MixedL.low (lettersL 5 a)) (lettersL_az 5 a)
      have e3 : (lettersL 5 a).length = ((lettersL 5 a).map (· + 32)).length := by rw [List.length_map]
      have e4 : numV (lettersL 5 a) ((lettersL 5 a).map (· + 32)).length = some (a : Int) := by rw [List.length_map]; exact numV_letters a (by omega) (by omega)
      have e5 : (lettersL 5 (a + n - 1)).length ≤ 4 := by omega
      have e6 := upper_mixed (MixedL.refl (lettersL 5 (a + n - 1))) (lettersL_az 5 (a + n - 1))
      have e7 : (lettersL 5 (a + n - 1)).length = (lettersL 5 (a + n - 1)).length := rfl
      have e8 := numV_letters (a + n - 1) (by omega) (by omega)
      have e9 : ((a + n - 1 : Nat) : Int) + 1 = ((a + n : Nat) : Int) := by omega
      have e10 : a + n ≤ 18279 := by omega
      have e11 : n ≤ 8 := by omega
      walk_at "M law"
      rename (Fr _ _ _ _) => F9
      rename (News _ _ _ _) => N9
      exact cut_I F9 holB (ex := []) (fun p hp => N9 p (.tail _ (.tail _ (.tail _ hp)))) hst hos d1 d2 c2 c3 (fun p hp => nomatch hp) ⟨rfl, _, _, _, _, _, a, _, ha0, ha1, rfl, rfl⟩
  clear F1 N1 hst hos d1 d2 c1 c2 c3 c4 q1 q2 q3 ha0 ha1 hn hus v1 v2 v3 a n ta tn DU us; clear ST SC st os o1 o2 U
  rintro h tk ⟨ST, SC, st, os, o1, o2, U, l, ex, fv, F1, N1, hst, hos, d1, d2, c1, c2, c3, c4, rfl, v1, v2, v3, v4, v5, a, ta, ha0, ha1, rfl, rfl⟩
  dsimp only
  simp only [List.nil_append, List.cons_append] at N1
  have q1 : (@LT.lt Nat _ SC ST) ∧ (@LT.lt Nat _ _ ST) ∧ (@LT.lt Nat _ _ ST) := ⟨c3, Nat.lt_trans c2 c3, Nat.lt_trans c1 (Nat.lt_trans c2 c3)⟩
  have q2 : (@LT.lt Nat _ _ SC) ∧ (@LT.lt Nat _ _ SC) := ⟨c2, Nat.lt_trans c1 c2⟩
  have q3 := offs_of (os := os) (o2 := o2) (o1 := o1) c1 c2 c3
  walk1
  refine cutG F1 (LawR [Str.ofString "script"] (fun fv l ex => ex = [] ∧ ∃ (v1 v2 v3 v4 v5 : Value) (a : Nat) (t : Tok) (x : List Nat) (tx : Tok) (r : Int) (tr : Tok), 1 ≤ a ∧ a ≤ 18270 ∧ MixedL (lettersL 5 a) x ∧ r ∈ rowL.map (·.1) ∧ fv = some (.int (a : Nat) t) ∧ l = [(Str.ofString "number", v1), (Str.ofString "name", v2), (Str.ofString "text", v3), (Str.ofString "many", v4), (Str.ofString "due", v5), (Str.ofString "row", .int r tr), (Str.ofString "column", .str ⟨x.toArray⟩ tx)])) ?_ ?_
  · have hLl := lettersL_len a (by omega) (by omega)
    have hL3 := hLl.2
    have hLz := lettersL_az 5 a
    have q4 : SC ≠ ST := Nat.ne_of_lt c3
    have q5 : ∀ p ∈ [(_, o2), (_, o1)], p.1 ≠ ST := fun p hp => q3 p (.tail _ hp)
    walk_at "M law"
    rename (LawSt SC _) => hs9
    rename (Fr _ _ _ _) => F9
    rename (News _ _ _ _) => N9
    rename (MixedL _ _) => hm9
    exact cut_I F9 (holP (holP holB)) (ex := []) (fun p hp => N9 p (.tail _ (.tail _ hp))) hs9 hos d1 d2 c2 c3 (fun p hp => nomatch hp) ⟨rfl, _, _, _, _, _, a, _, _, _, _, _, ha0, ha1, hm9, row_mem (by assumption) (by assumption) (by assumption) (by assumption), rfl, rfl⟩
  clear F1 N1 hst hos d1 d2 c1 c2 c3 c4 q1 q2 q3 ha0 ha1 v1 v2 v3 v4 v5 a ta; clear ST SC st os o1 o2 U
  rintro h tk ⟨ST, SC, st, os, o1, o2, U, l, ex, fv, F1, N1, hst, hos, d1, d2, c1, c2, c3, c4, rfl, v1, v2, v3, v4, v5, a, ta, x, tx, r, tr, ha0, ha1, hmx, hrow, rfl, rfl⟩
  dsimp only
  simp only [List.nil_append, List.cons_append] at N1
  have q1 : (@LT.lt Nat _ SC ST) ∧ (@LT.lt Nat _ _ ST) ∧ (@LT.lt Nat _ _ ST) := ⟨c3, Nat.lt_trans c2 c3, Nat.lt_trans c1 (Nat.lt_trans c2 c3)⟩
  have q2 : (@LT.lt Nat _ _ SC) ∧ (@LT.lt Nat _ _ SC) := ⟨c2, Nat.lt_trans c1 c2⟩
  have q3 := offs_of (os := os) (o2 := o2) (o1 := o1) c1 c2 c3
  walk1
  refine cutG F1 (LawR [Str.ofString "script"] (fun fv l ex => ∃ (v1 v2 v3 v4 v5 : Value) (a : Nat) (t : Tok) (x : List Nat) (tx : Tok) (r : Int) (tr : Tok) (ba bb : Bool) (t1 t2 : Tok) (MK : Addr) (ck : Nat), ex = [(MK, W.listOf #[.str ⟨(mk1 ba).toArray⟩ t1, .str ⟨(mk1 bb).toArray⟩ t2] ck)] ∧ 1 ≤ a ∧ a ≤ 18270 ∧ MixedL (lettersL 5 a) x ∧ r ∈ rowL.map (·.1) ∧ fv = some (.int (a : Nat) t) ∧ l = [(Str.ofString "number", v1), (Str.ofString "name", v2), (Str.ofString "text", v3), (Str.ofString "many", v4), (Str.ofString "due", v5), (Str.ofString "row", .int r tr), (Str.ofString "column", .str ⟨x.toArray⟩ tx), (Str.ofString "marks", .ref MK)])) ?_ ?_
  · walk_at "M law"
    all_goals (rename (LawSt SC _) => hs9; rename (Fr _ _ _ _) => F9; rename (News _ _ _ _) => N9; rw [text_0, text_1] at N9)
    all_goals refine cut_I F9 (holP holB) (ex := [_]) (news_skip (news_skip N9)) hs9 hos d1 d2 c2 c3 (fun p hp => by rw [List.mem_singleton.mp hp]; k_ne) ?_
    all_goals exact ⟨_, _, _, _, _, a, _, _, _, _, _, _, _, _, _, _, _, rfl, ha0, ha1, hmx, hrow, rfl, rfl⟩
  clear F1 N1 hst hos d1 d2 c1 c2 c3 c4 q1 q2 q3 ha0 ha1 hmx hrow v1 v2 v3 v4 v5 a ta x tx r tr; clear ST SC st os o1 o2 U
  rintro h tk ⟨ST, SC, st, os, o1, o2, U, l, ex, fv, F1, N1, hst, hos, d1, d2, c1, c2, c3, c4, v1, v2, v3, v4, v5, a, ta, x, tx, r, tr, ba, bb, t1, t2, MK, ck, rfl, ha0, ha1, hmx, hrow, rfl, rfl⟩
  dsimp only
  simp only [List.nil_append, List.cons_append] at N1
  have q1 : (@LT.lt Nat _ SC ST) ∧ (@LT.lt Nat _ _ ST) ∧ (@LT.lt Nat _ _ ST) := ⟨c3, Nat.lt_trans c2 c3, Nat.lt_trans c1 (Nat.lt_trans c2 c3)⟩
  have q2 : (@LT.lt Nat _ _ SC) ∧ (@LT.lt Nat _ _ SC) := ⟨c2, Nat.lt_trans c1 c2⟩
  have q3 := offs_of (os := os) (o2 := o2) (o1 := o1) c1 c2 c3
  walk1
  refine cutG F1 (LawR [Str.ofString "script"] (fun fv l ex => ex = [] ∧ ∃ (v1 v2 v3 v4 v5 v6 : Value) (a : Nat) (t : Tok) (x : List Nat) (tx : Tok) (r : Int) (tr : Tok) (ba bb : Bool) (d : List Nat) (tp : Tok), 1 ≤ a ∧ a ≤ 18270 ∧ MixedL (lettersL 5 a) x ∧ Str.ofString (toString r) = ⟨d.toArray⟩ ∧ Digits d ∧ ((NumText.digitsVal d : Nat) : Int) = r ∧ r ≤ 1048578 ∧ fv = some (.int (a : Nat) t) ∧ l = [(Str.ofString "number", v1), (Str.ofString "name", v2), (Str.ofString "text", v3), (Str.ofString "many", v4), (Str.ofString "due", v5), (Str.ofString "row", .int r tr), (Str.ofString "column", .str ⟨x.toArray⟩ tx), (Str.ofString "marks", v6), (Str.ofString "place", .str ⟨(placeL ba bb x d).toArray⟩ tp)])) ?_ ?_
  · obtain ⟨d, hd, hdd, hdv⟩ := row_text hrow
    have hr9 := row_rng hrow
    have hla := len_mk1 ba
    have hlb := len_mk1 bb
    have hlx : Str.length ⟨x.toArray⟩ ≤ 3 := by rw [len_mk, hmx.length]; exact (lettersL_len a (by omega) (by omega)).2
    have hld : Str.length ⟨d.toArray⟩ ≤ 7 := by rw [len_mk]; exact hdd.le.2
    walk_at "M law"
    rename (Fr _ _ _ _) => F9
    rename (News _ _ _ _) => N9
    rw [hd, mk_app, mk_app, mk_app] at F9
    exact cut_I F9 (holP holB) (ex := []) (fun p hp => N9 p (.tail _ hp)) hst hos d1 d2 c2 c3 (fun p hp => nomatch hp) ⟨rfl, _, _, _, _, _, _, a, _, x, _, r, _, ba, bb, d, _, ha0, ha1, hmx, hd, hdd, hdv, hr9.2, rfl, rfl⟩
  clear F1 N1 hst hos d1 d2 c1 c2 c3 c4 q1 q2 q3 ha0 ha1 hmx hrow v1 v2 v3 v4 v5 a ta x tx r tr ba bb t1 t2 MK ck; clear ST SC st os o1 o2 U
  rintro h tk ⟨ST, SC, st, os, o1, o2, U, l, ex, fv, F1, N1, hst, hos, d1, d2, c1, c2, c3, c4, rfl, v1, v2, v3, v4, v5, v6, a, ta, x, tx, r, tr, ba, bb, d, tp, ha0, ha1, hmx, hd, hdd, hdv, hrm, rfl, rfl⟩
  dsimp only
  simp only [List.nil_append, List.cons_append] at N1
  have q1 : (@LT.lt Nat _ SC ST) ∧ (@LT.lt Nat _ _ ST) ∧ (@LT.lt Nat _ _ ST) := ⟨c3, Nat.lt_trans c2 c3, Nat.lt_trans c1 (Nat.lt_trans c2 c3)⟩
  have q2 : (@LT.lt Nat _ _ SC) ∧ (@LT.lt Nat _ _ SC) := ⟨c2, Nat.lt_trans c1 c2⟩
  have q3 := offs_of (os := os) (o2 := o2) (o1 := o1) c1 c2 c3
  walk1
  refine cutG F1 (LawR [Str.ofString "script"] (fun fv l ex => ex = [] ∧ ∃ (v1 v2 v3 v4 v5 v6 : Value) (a : Nat) (t : Tok) (x : List Nat) (tx : Tok) (r : Int) (tr : Tok) (ba bb : Bool) (d : List Nat) (tp : Tok), 1 ≤ a ∧ a ≤ 18270 ∧ MixedL (lettersL 5 a) x ∧ Str.ofString (toString r) = ⟨d.toArray⟩ ∧ Digits d ∧ ((NumText.digitsVal d : Nat) : Int) = r ∧ r ≤ 1048578 ∧ fv = some (.int (a : Nat) t) ∧ l = [(Str.ofString "number", v1), (Str.ofString "name", v2), (Str.ofString "text", v3), (Str.ofString "many", v4), (Str.ofString "due", v5), (Str.ofString "row", .int r tr), (Str.ofString "column", .str ⟨x.toArray⟩ tx), (Str.ofString "marks", v6), (Str.ofString "place", .str ⟨(placeL ba bb x d).toArray⟩ tp)])) ?_ ?_
  · have hlet := hmx.letters ha0 (by omega)
    have hok := ok_letters (hmx.az (lettersL_az 5 a))
    have hlx : Str.length ⟨x.toArray⟩ ≤ 3 := by rw [len_mk, hmx.length]; exact (lettersL_len a (by omega) (by omega)).2
    have hld : Str.length ⟨d.toArray⟩ ≤ 7 := by rw [len_mk]; exact hdd.le.2
    have hl1 : Str.length (Str.ofString "$") = 1 := by decide +kernel
    have hls : Str.length (Str.ofString (toString r)) ≤ 7 := by rw [hd]; exact hld
    have hr9 : 0 ≤ r := by omega
    rcases Nat.eq_zero_or_pos (NumText.digitsVal d) with hz | hpos
    · have hrz : r = 0 := by omega
      walk_at "M law"
      · rename ((_ != _) = true) => a9
        rw [← List.cons_append, abs_eq hd] at a9
        exact absurd a9 (by simp)
      · rename (Fr _ _ _ _) => F9
        rename (News _ _ _ _) => N9
        exact cut_I F9 holB (ex := []) N9 hst hos d1 d2 c2 c3 (fun p hp => nomatch hp) ⟨rfl, _, _, _, _, _, _, a, _, x, _, r, _, ba, bb, d, _, ha0, ha1, hmx, hd, hdd, hdv, hrm, rfl, rfl⟩
    · have hrp : 0 < r := by omega
      subst hdv
      walk_at "M law"
      · rename ((_ != _) = true) => a9
        rw [← List.cons_append, abs_eq hd] at a9
        exact absurd a9 (by simp)
      · rename (Fr _ _ _ _) => F9
        rename (News _ _ _ _) => N9
        exact cut_I F9 holB (ex := []) (fun p hp => N9 p (.tail _ (.tail _ hp))) hst hos d1 d2 c2 c3 (fun p hp => nomatch hp) ⟨rfl, _, _, _, _, _, _, a, _, x, _, _, _, ba, bb, d, _, ha0, ha1, hmx, hd, hdd, rfl, hrm, rfl, rfl⟩
  clear F1 N1 hst hos d1 d2 c1 c2 c3 c4 q1 q2 q3 ha0 ha1 hmx hd hdd hdv hrm v1 v2 v3 v4 v5 v6 a ta x tx r tr ba bb d tp; clear ST SC st os o1 o2 U
  rintro h tk ⟨ST, SC, st, os, o1, o2, U, l, ex, fv, F1, N1, hst, hos, d1, d2, c1, c2, c3, c4, rfl, v1, v2, v3, v4, v5, v6, a, ta, x, tx, r, tr, ba, bb, d, tp, ha0, ha1, hmx, hd, hdd, hdv, hrm, rfl, rfl⟩
  dsimp only
  simp only [List.nil_append, List.cons_append] at N1
  have q1 : (@LT.lt Nat _ SC ST) ∧ (@LT.lt Nat _ _ ST) ∧ (@LT.lt Nat _ _ ST) := ⟨c3, Nat.lt_trans c2 c3, Nat.lt_trans c1 (Nat.lt_trans c2 c3)⟩
  have q2 : (@LT.lt Nat _ _ SC) ∧ (@LT.lt Nat _ _ SC) := ⟨c2, Nat.lt_trans c1 c2⟩
  have q3 := offs_of (os := os) (o2 := o2) (o1 := o1) c1 c2 c3
  walk1
  refine cutG F1 (LawR [Str.ofString "script"] (fun fv l ex => ex = [] ∧ ∃ (v1 v2 v3 v4 v5 v6 : Value) (a : Nat) (t : Tok) (x : List Nat) (tx : Tok) (r : Int) (tr : Tok) (ba bb : Bool) (d : List Nat) (tp : Tok), 1 ≤ a ∧ a ≤ 18270 ∧ MixedL (lettersL 5 a) x ∧ Str.ofString (toString r) = ⟨d.toArray⟩ ∧ Digits d ∧ ((NumText.digitsVal d : Nat) : Int) = r ∧ r ≤ 1048578 ∧ fv = some (.int (a : Nat) t) ∧ l = [(Str.ofString "number", v1), (Str.ofString "name", v2), (Str.ofString "text", v3), (Str.ofString "many", v4), (Str.ofString "due", v5), (Str.ofString "row", .int r tr), (Str.ofString "column", .str ⟨x.toArray⟩ tx), (Str.ofString "marks", v6), (Str.ofString "place", .str ⟨(placeL ba bb x d).toArray⟩ tp)])) ?_ ?_
  · have hlet := hmx.letters ha0 (by omega)
    have hux := upper_mixed hmx (lettersL_az 5 a)
    have hul := hmx.length.symm
    have hnv : numV (lettersL 5 a) x.length = some (a : Int) := by rw [hmx.length]; exact numV_letters a (by omega) (by omega)
    have hlx : Str.length ⟨x.toArray⟩ ≤ 3 := by rw [len_mk, hmx.length]; exact (lettersL_len a (by omega) (by omega)).2
    have hls : Str.length (Str.ofString (toString r)) ≤ 7 := by rw [hd, len_mk]; exact hdd.le.2
    subst hdv
    have hr9 : (0 : Int) ≤ (NumText.digitsVal d : Int) := by omega
    walk_at "M law"
    rename (Fr _ _ _ _) => F9
    rename (News _ _ _ _) => N9
    exact cut_I F9 holB (ex := []) (fun p hp => N9 p (.tail _ (.tail _ hp))) hst hos d1 d2 c2 c3 (fun p hp => nomatch hp) ⟨rfl, _, _, _, _, _, _, a, _, x, _, _, _, ba, bb, d, _, ha0, ha1, hmx, hd, hdd, rfl, hrm, rfl, rfl⟩
  clear F1 N1 hst hos d1 d2 c1 c2 c3 c4 q1 q2 q3 ha0 ha1 hmx hd hdd hdv hrm v1 v2 v3 v4 v5 v6 a ta x tx r tr ba bb d tp; clear ST SC st os o1 o2 U
  rintro h tk ⟨ST, SC, st, os, o1, o2, U, l, ex, fv, F1, N1, hst, hos, d1, d2, c1, c2, c3, c4, rfl, v1, v2, v3, v4, v5, v6, a, ta, x, tx, r, tr, ba, bb, d, tp, ha0, ha1, hmx, hd, hdd, hdv, hrm, rfl, rfl⟩
  dsimp only
  simp only [List.nil_append, List.cons_append] at N1
  have q1 : (@LT.lt Nat _ SC ST) ∧ (@LT.lt Nat _ _ ST) ∧ (@LT.lt Nat _ _ ST) := ⟨c3, Nat.lt_trans c2 c3, Nat.lt_trans c1 (Nat.lt_trans c2 c3)⟩
  have q2 : (@LT.lt Nat _ _ SC) ∧ (@LT.lt Nat _ _ SC) := ⟨c2, Nat.lt_trans c1 c2⟩
  have q3 := offs_of (os := os) (o2 := o2) (o1 := o1) c1 c2 c3
  walk1
  refine cutG F1 (LawR [Str.ofString "script"] (fun fv l ex => ex = [] ∧ ∃ (v1 v2 v3 v4 v5 v6 v7 v8 v9 : Value) (vw : Value), OtherV vw ∧ l = [(Str.ofString "number", v1), (Str.ofString "name", v2), (Str.ofString "text", v3), (Str.ofString "many", v4), (Str.ofString "due", v5), (Str.ofString "row", v7), (Str.ofString "column", v8), (Str.ofString "marks", v6), (Str.ofString "place", v9), (Str.ofString "other", vw)])) ?_ ?_
  · have hlet := hmx.letters ha0 (by omega)
    have hlx : Str.length ⟨x.toArray⟩ ≤ 3 := by rw [len_mk, hmx.length]; exact (lettersL_len a (by omega) (by omega)).2
    have hls : Str.length (Str.ofString (toString r)) ≤ 7 := by rw [hd, len_mk]; exact hdd.le.2
    have hlp : Str.length ⟨(placeL ba bb x d).toArray⟩ ≤ 12 := by rw [len_mk]; exact placeL_le hlet hdd
    have e1 : Str.length (Str.ofString "x") = 1 := by decide +kernel
    have e2 : Str.length (Str.ofString "$$") = 2 := by decide +kernel
    have e3 : Str.length (Str.ofString "A1B") = 3 := by decide +kernel
    have hr9 : 0 ≤ r := by omega
    have hxl : x.length ≤ 3 := by rw [hmx.length]; exact (lettersL_len a (by omega) (by omega)).2
    have hdl := hdd.le.2
    have ho0 := other_of text_0 NoPlace.nil (by decide)
    have ho1 := other_of rfl (NoPlace.letters hlet) (by omega)
    have ho2 := other_of hd (NoPlace.digits hdd) (by omega)
    have ho3 := other_of (s := ⟨(placeL ba bb x d).toArray⟩ ++ Str.ofString "x") (by rw [text_x, mk_app]) (NoPlace.more (a := ba) (b := bb) hlet hdd) (by rw [List.length_append]; have := placeL_le (a := ba) (b := bb) hlet hdd; simp only [List.length_cons, List.length_nil]; omega)
    have ho4 := other_of (s := Str.ofString "$$" ++ ⟨x.toArray⟩ ++ Str.ofString (toString r)) (by rw [text_dd, mk_app, hd, mk_app]) (NoPlace.marks hlet hdd) (by simp only [List.length_append, List.length_cons, List.length_nil]; omega)
    have ho5 := other_of (s := ⟨x.toArray⟩ ++ Str.ofString "A1B") (by rw [text_ab, mk_app]) (NoPlace.between hlet) (by simp only [List.length_append, List.length_cons, List.length_nil]; omega)
    walk_at "M law"
    all_goals (rename (LawSt SC _) => hs9; rename (Fr _ _ _ _) => F9; rename (News _ _ _ _) => N9)
    all_goals refine cut_I F9 (holP holB) (ex := []) (fun p hp => N9 p (.tail _ hp)) hs9 hos d1 d2 c2 c3 (fun p hp => nomatch hp) ⟨rfl, _, _, _, _, _, _, _, _, _, _, ?_, rfl⟩
    all_goals first | exact ho0 _ | exact ho1 _ | exact ho2 _ | exact ho3 _ | exact ho4 _ | exact ho5 _
  clear F1 N1 hst hos d1 d2 c1 c2 c3 c4 q1 q2 q3 ha0 ha1 hmx hd hdd hdv hrm v1 v2 v3 v4 v5 v6 a ta x tx r tr ba bb d tp; clear ST SC st os o1 o2 U
  rintro h tk ⟨ST, SC, st, os, o1, o2, U, l, ex, fv, F1, N1, hst, hos, d1, d2, c1, c2, c3, c4, rfl, v1, v2, v3, v4, v5, v6, v7, v8, v9, vw, ⟨y, ty, rfl, hy, hyl⟩, rfl⟩
  dsimp only
  simp only [List.nil_append, List.cons_append] at N1
  have q1 : (@LT.lt Nat _ SC ST) ∧ (@LT.lt Nat _ _ ST) ∧ (@LT.lt Nat _ _ ST) := ⟨c3, Nat.lt_trans c2 c3, Nat.lt_trans c1 (Nat.lt_trans c2 c3)⟩
  have q2 : (@LT.lt Nat _ _ SC) ∧ (@LT.lt Nat _ _ SC) := ⟨c2, Nat.lt_trans c1 c2⟩
  have q3 := offs_of (os := os) (o2 := o2) (o1 := o1) c1 c2 c3
  walk1
  walk_at "M law"
end
end Mine
theorem PySem.Challenge.cw_ez0207_01_holds : PySem.Challenge.rw_ez0207_01.Holds := by
  exact Mine.law_t
