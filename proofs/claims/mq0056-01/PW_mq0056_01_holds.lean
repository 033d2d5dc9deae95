import PyProof.Rows.All
import Wide.All
import OpenK.AllK
import Wide.FinOn
import PySem.Challenge.RW_mq0056_01
set_option Elab.async false

section
open PySem PySem.W PyProof.Rows
namespace Mine
set_option maxRecDepth 100000 in
set_option maxHeartbeats 8000000 in
open_top hd for PySem.Challenge.rw_mq0056_01
end Mine
end

section
open PySem PySem.W PyProof.Rows PySem.Calls PySem.Spec
namespace Mine
/-- two lists, item by item -/
inductive All2 {α β : Type} (G : α → β → Prop) : List α → List β → Prop where
  | nil : All2 G [] []
  | cons {x : α} {y : β} {xs : List α} {ys : List β} : G x y → All2 G xs ys → All2 G (x :: xs) (y :: ys)
theorem All2.snoc {α β : Type} {G : α → β → Prop} {x : α} {y : β} : ∀ {xs : List α} {ys : List β}, All2 G xs ys → G x y → All2 G (xs ++ [x]) (ys ++ [y])
  | _, _, .nil, g => .cons g .nil
  | _, _, .cons h r, g => .cons h (r.snoc g)
theorem All2.length {α β : Type} {G : α → β → Prop} : ∀ {xs : List α} {ys : List β}, All2 G xs ys → ys.length = xs.length
  | _, _, .nil => rfl
  | _, _, .cons _ r => by simp [r.length]
theorem All2.ints {α : Type} {f : α → Int} : ∀ {xs : List α} {ys : List Value}, All2 (fun x y => ∃ t, y = .int (f x) t) xs ys → IntsAre ys (xs.map f)
  | _, _, .nil => .nil
  | _, _, .cons ⟨t, e⟩ r => by subst e; exact .cons _ t r.ints
theorem All2.strs {α : Type} {f : α → Str} : ∀ {xs : List α} {ys : List Value}, All2 (fun x y => ∃ t, y = .str (f x) t) xs ys → StrsAre ys (xs.map f)
  | _, _, .nil => .nil
  | _, _, .cons ⟨t, e⟩ r => by subst e; exact .cons _ t r.strs

/-- a turn's end: the frame and the ledger as they were, and what is said of the item -/
def TurnEnd (h₀ : Heap) (L : Addr) (m : Str → Option Value) (s : Shared) (news : List (Addr × Obj)) (G : Value → Prop) (y : Value) (s₂ : Shared) : Prop :=
  ∃ h' tk', s₂ = { s with heap := h', toks := tk' } ∧ Fr h₀ L h' m ∧ News h₀ L h' news ∧ G y
theorem TurnEnd.intro {h₀ : Heap} {L : Addr} {m : Str → Option Value} {s : Shared} {news : List (Addr × Obj)} {G : Value → Prop} {y : Value} {h' : Heap} {tk' : Nat}
    (F : Fr h₀ L h' m) (N : News h₀ L h' news) (g : G y) : TurnEnd h₀ L m s news G y { s with heap := h', toks := tk' } := ⟨h', tk', rfl, F, N, g⟩
/-- a test's end -/
def TestEnd (h₀ : Heap) (L : Addr) (m : Str → Option Value) (s : Shared) (news : List (Addr × Obj)) (q : Bool) (K : Shared → Prop) (b : Bool) (s₁ : Shared) : Prop :=
  b = q ∧ ∃ h₁ tk₁, s₁ = { s with heap := h₁, toks := tk₁ } ∧ Fr h₀ L h₁ m ∧ News h₀ L h₁ news ∧ (b = true → K s₁)
theorem TestEnd.intro {h₀ : Heap} {L : Addr} {m : Str → Option Value} {s : Shared} {news : List (Addr × Obj)} {q : Bool} {K : Shared → Prop} {b : Bool} {h₁ : Heap} {tk₁ : Nat}
    (F : Fr h₀ L h₁ m) (N : News h₀ L h₁ news) (e : b = q) (g : b = true → K { s with heap := h₁, toks := tk₁ }) : TestEnd h₀ L m s news q K b { s with heap := h₁, toks := tk₁ } := ⟨e, h₁, tk₁, rfl, F, N, g⟩

section
variable {prog : Program} {w : World} {A : Around} {E : Value → Shared → Prop} {s : Shared} {h₀ : Heap} {L : Addr} {m : Str → Option Value} {env : Env} {ct elt iter : Expr} {x : Str} {scope : Scope} {cl : List (Str × Addr)} {S : List (Addr × Obj) → Prop} {P : Nat → Value → Prop} {Fin : List Value → List (Addr × Obj) → Prop} {news : List (Addr × Obj)}

/-- the turns of a comprehension without a test, each by its place -/
theorem rest_U {n : Nat} (G : Nat → Value → Prop) (hS : S news)
    (turn : ∀ i v I oI C oC D m₂ ys h tk (E' : Value → Shared → Prop), i < n → P i v → LCg.NsObj oC m₂ → m₂ x = some v → Fr h₀ L h m → News h₀ L h ((I, oI) :: (C, oC) :: (D, LCg.lst ys) :: news) → LCg.Off3 I C D news → ((@Ne Nat I C) ∧ (@Ne Nat I D) ∧ (@Ne Nat C D)) →
      wpAny (model prog w) A (eval elt (compEnvC scope cl C env)) (TurnEnd h₀ L m s ((I, oI) :: (C, oC) :: (D, LCg.lst ys) :: news) (G i)) E' { s with heap := h, toks := tk })
    (fin : ∀ ys, All2 G (List.range n) ys → Fin ys news) : LCg.CompRest prog w A h₀ L m env elt x scope cl s S P Fin n 0 [] news := by
  have key : ∀ (j i : Nat) (ys : List Value), i + j = n → All2 G (List.range i) ys → LCg.CompRest prog w A h₀ L m env elt x scope cl s S P Fin j i ys news := by
    intro j
    induction j with
    | zero =>
      intro i ys hi hy
      obtain rfl : i = n := by omega
      exact LCg.CompRest.zero (fin ys hy)
    | succ j ih =>
      intro i ys hi hy
      refine LCg.CompRest.succ ?_
      intro v I oI C oC D m₂ h tk E' hv hC hx F N off ne
      refine wpAny_mono (turn i v I oI C oC D m₂ ys h tk E' (by omega) hv hC hx F N off ne) (fun y s₂ hq => ?_) fun _ _ e => e
      obtain ⟨h', tk', e, F', N', hg⟩ := hq
      refine ⟨h', tk', news, e, F', N', off, hS, ih (i + 1) _ (by omega) ?_⟩
      rw [List.range_succ]
      exact hy.snoc hg
  exact key n 0 [] (by omega) .nil

/-- the turns of a comprehension with one test -/
theorem rest_T {n : Nat} (q : Nat → Bool) (G : Nat → Value → Prop) (hS : S news)
    (turn : ∀ i v I oI C oC D m₂ ys h tk (E' : Value → Shared → Prop), i < n → P i v → LCg.NsObj oC m₂ → m₂ x = some v → Fr h₀ L h m → News h₀ L h ((I, oI) :: (C, oC) :: (D, LCg.lst ys) :: news) → LCg.Off3 I C D news → ((@Ne Nat I C) ∧ (@Ne Nat I D) ∧ (@Ne Nat C D)) →
      wpAny (model prog w) A (isTrue ct (compEnvC scope cl C env) (eval ct (compEnvC scope cl C env))) (TestEnd h₀ L m s ((I, oI) :: (C, oC) :: (D, LCg.lst ys) :: news) (q i)
        (wpAny (model prog w) A (eval elt (compEnvC scope cl C env)) (TurnEnd h₀ L m s ((I, oI) :: (C, oC) :: (D, LCg.lst ys) :: news) (G i)) E')) E' { s with heap := h, toks := tk })
    (fin : ∀ ys, All2 G ((List.range n).filter q) ys → Fin ys news) : LCt.CompRestT prog w A h₀ L m env ct elt x scope cl s S P Fin n 0 [] news := by
  have key : ∀ (j i : Nat) (ys : List Value), i + j = n → All2 G ((List.range i).filter q) ys → LCt.CompRestT prog w A h₀ L m env ct elt x scope cl s S P Fin j i ys news := by
    intro j
    induction j with
    | zero =>
      intro i ys hi hy
      obtain rfl : i = n := by omega
      exact LCt.CompRestT.zero (fin ys hy)
    | succ j ih =>
      intro i ys hi hy
      refine LCt.CompRestT.succ ?_
      intro v I oI C oC D m₂ h tk E' hv hC hx F N off ne
      refine wpAny_mono (turn i v I oI C oC D m₂ ys h tk E' (by omega) hv hC hx F N off ne) (fun b s₁ hq => ?_) fun _ _ e => e
      obtain ⟨hb, h₁, tk₁, rfl, F₁, N₁, more⟩ := hq
      cases b with
      | true =>
        simp only [if_true]
        refine wpAny_mono (more rfl) (fun y s₂ hq => ?_) fun _ _ e => e
        obtain ⟨h', tk', e, F', N', hg⟩ := hq
        refine ⟨h', tk', news, e, F', N', off, hS, ih (i + 1) _ (by omega) ?_⟩
        rw [List.range_succ, List.filter_append, List.filter_cons, ← hb, if_pos rfl, List.filter_nil]
        exact hy.snoc hg
      | false =>
        simp only [Bool.false_eq_true, if_false]
        refine ⟨h₁, tk₁, news, rfl, F₁, N₁, off, hS, ih (i + 1) _ (by omega) ?_⟩
        rw [List.range_succ, List.filter_append, List.filter_cons, ← hb, if_neg (by decide), List.filter_nil, List.append_nil]
        exact hy
  exact key n 0 [] (by omega) .nil

theorem str_st {I : Addr} {y : Str} {t : Tok} : ∀ i (h h' : Heap) (o : Obj) (nw : List (Addr × Obj)), h.IsStrIter I "str_ascii_iterator" y t i → h.get? I = some o → h'.get? I = some o → (∀ b o, h₀.get? b = some o → h'.get? b = some o) → News h₀ L h' nw → True → h'.IsStrIter I "str_ascii_iterator" y t i :=
  fun i h h' o nw st e e' _ _ _ => by obtain ⟨o', q, r⟩ := st; rw [e] at q; cases q; exact ⟨o, e', r⟩

/-- a text's signs as a comprehension's source -/
def SrcS (prog : Program) (w : World) (A : Around) (h₀ : Heap) (L : Addr) (m : Str → Option Value) (env : Env) (elt : Expr) (x : Str) (scope : Scope) (cl : List (Str × Addr)) (Fin : Shared → List Value → List (Addr × Obj) → Prop) (xv : Value) (s₁ : Shared) : Prop :=
  ∃ y t news, xv = .str y t ∧ A.handled = none ∧ y.cps.all (· < 128) = true ∧ y.cps.size ≤ sizeLine ∧ Fr h₀ L s₁.heap m ∧ News h₀ L s₁.heap news ∧
    ∀ g, LCg.CompRest prog w A h₀ L m env elt x scope cl { s₁ with heap := g } (fun _ => True) (SignAt y) (Fin { s₁ with heap := g }) y.cps.size 0 [] news
def SrcST (prog : Program) (w : World) (A : Around) (h₀ : Heap) (L : Addr) (m : Str → Option Value) (env : Env) (ct elt : Expr) (x : Str) (scope : Scope) (cl : List (Str × Addr)) (Fin : Shared → List Value → List (Addr × Obj) → Prop) (xv : Value) (s₁ : Shared) : Prop :=
  ∃ y t news, xv = .str y t ∧ A.handled = none ∧ y.cps.all (· < 128) = true ∧ y.cps.size ≤ sizeLine ∧ Fr h₀ L s₁.heap m ∧ News h₀ L s₁.heap news ∧
    ∀ g, LCt.CompRestT prog w A h₀ L m env ct elt x scope cl { s₁ with heap := g } (fun _ => True) (SignAt y) (Fin { s₁ with heap := g }) y.cps.size 0 [] news

theorem ListComp_S {px : Pos} {pos : Pos} {Q : Value → Shared → Prop} (_F : Fr h₀ L s.heap m)
    (hclos : closureFor scope env = pure cl) (hcell : ∀ y ∈ scope.names, y.2 ≠ .cell) (hkind : scope.kind = .function)
    (hnames : ∀ y ∈ scope.names, y.2 = .local → scope.names.lookup y.1 = some .local) (hx : scope.names.lookup x = some .local)
    (h : wpAny (model prog w) A (eval iter env) (SrcS prog w A h₀ L m env elt x scope cl (fun s₂ => LCg.FinE h₀ L m s₂ Q)) E s)
    (hs : ∀ x, foldedSetIterable iter env x = pure x := by intro _; rfl) :
    wpAny (model prog w) A (eval (.ListComp elt [⟨.Name x px, iter, [], 0⟩] scope pos) env) Q E s := by
  rw [eval_ListComp]
  refine wpAny_comprehension_free (use := none) rfl hs hclos hkind hnames (wpAny_mono h (fun xv s₁ h₁ => ?_) fun _ _ e => e)
  obtain ⟨y, t, news, rfl, hh, ha, hsz, F, N, R⟩ := h₁
  refine wpAny_pyIter_ascii ha ?_
  refine LCg.block_U (Walks.strAscii hh s₁.heap.objs.size y t) hsz (fun i h st => by obtain ⟨o, e, _⟩ := st; exact ⟨o, e⟩) str_st hcell hkind hx ⟨_, Heap.get?_push_size _ rfl, rfl, rfl⟩ (fun b hb => ?_)
      (F.keeps fun _ _ e => Heap.get?_push_of_some _ e) (N.grown fun _ _ e => Heap.get?_push_of_some _ e) (Nat.ne_of_lt F.ns.lt) (next_is_new F) (fun p hp => Nat.ne_of_lt (Heap.lt_size (N p hp).1)) trivial (R _) ?_
  · rw [List.mem_singleton.mp hb]
    show s₁.heap.objs.size < (s₁.heap.push _).objs.size
    rw [Heap.size_push]; exact Nat.lt_succ_self _
  · intro D C h tk m' ys news' F' N' o1 hn hC₀ hD₀ hCL hDL hCD offC fin
    refine ⟨m', hn, fun h'' hs'' => fin D h'' tk (F'.change hs'' hCL hC₀) (fun p hp => ?_) o1⟩
    refine ⟨hs''.extBut _ _ ?_ (N' p hp).1, (N' p hp).2⟩
    rcases List.mem_cons.mp hp with rfl | hp
    · exact Ne.symm hCD
    · exact offC p hp

theorem ListComp_ST {px : Pos} {pos : Pos} {Q : Value → Shared → Prop} (_F : Fr h₀ L s.heap m)
    (hclos : closureFor scope env = pure cl) (hcell : ∀ y ∈ scope.names, y.2 ≠ .cell) (hkind : scope.kind = .function)
    (hnames : ∀ y ∈ scope.names, y.2 = .local → scope.names.lookup y.1 = some .local) (hx : scope.names.lookup x = some .local)
    (h : wpAny (model prog w) A (eval iter env) (SrcST prog w A h₀ L m env ct elt x scope cl (fun s₂ => LCg.FinE h₀ L m s₂ Q)) E s)
    (hs : ∀ x, foldedSetIterable iter env x = pure x := by intro _; rfl) :
    wpAny (model prog w) A (eval (.ListComp elt [⟨.Name x px, iter, [ct], 0⟩] scope pos) env) Q E s := by
  rw [eval_ListComp]
  refine wpAny_comprehension_free (use := none) rfl hs hclos hkind hnames (wpAny_mono h (fun xv s₁ h₁ => ?_) fun _ _ e => e)
  obtain ⟨y, t, news, rfl, hh, ha, hsz, F, N, R⟩ := h₁
  refine wpAny_pyIter_ascii ha ?_
  refine LCt.block_T (Walks.strAscii hh s₁.heap.objs.size y t) hsz (fun i h st => by obtain ⟨o, e, _⟩ := st; exact ⟨o, e⟩) str_st hcell hkind hx ⟨_, Heap.get?_push_size _ rfl, rfl, rfl⟩ (fun b hb => ?_)
      (F.keeps fun _ _ e => Heap.get?_push_of_some _ e) (N.grown fun _ _ e => Heap.get?_push_of_some _ e) (Nat.ne_of_lt F.ns.lt) (next_is_new F) (fun p hp => Nat.ne_of_lt (Heap.lt_size (N p hp).1)) trivial (R _) ?_
  · rw [List.mem_singleton.mp hb]
    show s₁.heap.objs.size < (s₁.heap.push _).objs.size
    rw [Heap.size_push]; exact Nat.lt_succ_self _
  · intro D C h tk m' ys news' F' N' o1 hn hC₀ hD₀ hCL hDL hCD offC fin
    refine ⟨m', hn, fun h'' hs'' => fin D h'' tk (F'.change hs'' hCL hC₀) (fun p hp => ?_) o1⟩
    refine ⟨hs''.extBut _ _ ?_ (N' p hp).1, (N' p hp).2⟩
    rcases List.mem_cons.mp hp with rfl | hp
    · exact Ne.symm hCD
    · exact offC p hp
end
theorem swaps_cell {elt : Expr} {gens : List Comprehension} {scope : Scope} {pos p : Pos} {t : Str} {line : Nat} {env : Env} (h : (env.kindOf t == some .local) = false) :
    swapsWith (.ListComp elt gens scope pos) (some (.Name t p)) line env = pure false := by
  show (pure (env.blockKind == .function && env.kindOf t == some .local && p.line == pos.line && !(scope.names.any fun (n, k) => n == t && (k == .local || k == .cell))) : Sem Bool) = pure false
  rw [h]
  simp
theorem swaps_local {elt : Expr} {gens : List Comprehension} {scope : Scope} {pos p : Pos} {t : Str} {line : Nat} {env : Env}
    (h : (env.blockKind == .function && env.kindOf t == some .local && p.line == pos.line && !(scope.names.any fun (n, k) => n == t && (k == .local || k == .cell))) = true) :
    swapsWith (.ListComp elt gens scope pos) (some (.Name t p)) line env = pure true := by
  show (pure (env.blockKind == .function && env.kindOf t == some .local && p.line == pos.line && !(scope.names.any fun (n, k) => n == t && (k == .local || k == .cell))) : Sem Bool) = pure true
  rw [h]
end Mine
end

section
open PySem PySem.W PyProof.Rows PySem.Calls PySem.Spec PySem.Builtin PySem.Builtin.Str
namespace Mine
/-- a text of given codes -/
def S (l : List Nat) : Str := ⟨l.toArray⟩
theorem S_toList (l : List Nat) : (S l).cps.toList = l := rfl
theorem S_of (x : Str) : S x.cps.toList = x := by cases x; simp [S]
theorem S_length (l : List Nat) : (S l).length = l.length := by simp [S, Str.length]
theorem S_append (a b : List Nat) : S a ++ S b = S (a ++ b) := Str.ext' (by simp [Str.cps_append, S])
theorem S_inj {a b : List Nat} (h : S a = S b) : a = b := by
  have := congrArg (fun x : Str => x.cps.toList) h
  simpa [S] using this

/-- parts, with sep between them -/
def glue (sep : List Nat) : List (List Nat) → List Nat
  | [] => []
  | [x] => x
  | x :: y :: r => x ++ sep ++ glue sep (y :: r)
theorem glue_cons (sep x : List Nat) {r : List (List Nat)} (h : r ≠ []) : glue sep (x :: r) = x ++ sep ++ glue sep r := by
  cases r with
  | nil => exact absurd rfl h
  | cons y t => rfl
theorem join_S (sep : List Nat) : ∀ ls : List (List Nat), Str.join (S sep) (ls.map S) = S (glue sep ls)
  | [] => rfl
  | [_] => rfl
  | x :: y :: r => by
    have ih := join_S sep (y :: r)
    show S x ++ S sep ++ Str.join (S sep) ((y :: r).map S) = _
    rw [ih, S_append, S_append]
    rfl
theorem txt_join_S (sep : List Nat) (ls : List (List Nat)) : Txt.join (S sep) (ls.map S) = S (glue sep ls) := by
  show glued _ _ = _
  rw [StrLaws.glued_eq_join, join_S]
theorem glue_nil (ls : List (List Nat)) : glue [] ls = ls.flatten := by
  induction ls with
  | nil => rfl
  | cons x r ih =>
    cases r with
    | nil => simp [glue]
    | cons y t => rw [glue_cons _ _ (by simp), ih]; simp
theorem txt_join_nil {α : Type} (f : α → List Nat) (l : List α) : Txt.join (S []) (l.map fun c => S (f c)) = S (l.flatMap f) := by
  have e : (l.map fun c => S (f c)) = (l.map f).map S := by simp
  rw [e, txt_join_S, glue_nil, List.flatMap_def]

/-- the parts between the items that q tells -/
def cutBy (q : Nat → Bool) : List Nat → List (List Nat)
  | [] => [[]]
  | c :: r => if q c = true then [] :: cutBy q r else match cutBy q r with
    | [] => [[c]]
    | p :: ps => (c :: p) :: ps
theorem cutBy_ne (q : Nat → Bool) : ∀ l, cutBy q l ≠ []
  | [] => by simp [cutBy]
  | c :: r => by
    unfold cutBy
    split
    · simp
    · split <;> simp
theorem glue_cutBy (c : Nat) : ∀ l, glue [c] (cutBy (· == c) l) = l
  | [] => rfl
  | x :: r => by
    have ih := glue_cutBy c r
    have hne := cutBy_ne (· == c) r
    unfold cutBy
    split
    · rename_i h
      rw [glue_cons _ _ hne, ih]
      simpa using (beq_iff_eq.mp h).symm
    · split
      · rename_i h; exact absurd h hne
      · rename_i p ps h
        rw [h] at ih
        cases ps with
        | nil => simp only [glue] at ih ⊢; rw [ih]
        | cons z t => simp only [glue] at ih ⊢; rw [← ih]; rfl
theorem cutBy_free (c : Nat) : ∀ l, ∀ p ∈ cutBy (· == c) l, c ∉ p
  | [], p, hp => by simp [cutBy] at hp; simp [hp]
  | x :: r, p, hp => by
    have ih := cutBy_free c r
    unfold cutBy at hp
    split at hp
    · rcases List.mem_cons.mp hp with rfl | hp
      · simp
      · exact ih p hp
    · rename_i hx
      split at hp
      · rename_i h; exact absurd h (cutBy_ne _ r)
      · rename_i p' ps h
        rw [h] at ih
        rcases List.mem_cons.mp hp with rfl | hp
        · intro hm
          rcases List.mem_cons.mp hm with e | hm
          · exact hx (by simp [e])
          · exact ih p' List.mem_cons_self hm
        · exact ih p (List.mem_cons_of_mem _ hp)
/-- the parts free of c are told by their gluing -/
theorem cutBy_uniq (c : Nat) : ∀ (ps : List (List Nat)), ps ≠ [] → (∀ p ∈ ps, c ∉ p) → cutBy (· == c) (glue [c] ps) = ps := by
  have one : ∀ (p : List Nat), c ∉ p → cutBy (· == c) p = [p] := by
    intro p
    induction p with
    | nil => intro _; rfl
    | cons x r ih =>
      intro h
      unfold cutBy
      rw [if_neg (by intro e; exact h (by rw [beq_iff_eq.mp e]; exact List.mem_cons_self)), ih (fun hm => h (List.mem_cons_of_mem _ hm))]
  have two : ∀ (p l : List Nat), c ∉ p → cutBy (· == c) (p ++ [c] ++ l) = p :: cutBy (· == c) l := by
    intro p l
    induction p with
    | nil => intro _; show cutBy _ (c :: l) = _; rw [cutBy, if_pos (by simp)]
    | cons x r ih =>
      intro h
      show cutBy _ (x :: (r ++ [c] ++ l)) = _
      rw [cutBy, if_neg (by intro e; exact h (by rw [beq_iff_eq.mp e]; exact List.mem_cons_self)), ih (fun hm => h (List.mem_cons_of_mem _ hm))]
  intro ps
  induction ps with
  | nil => intro h; exact absurd rfl h
  | cons p r ih =>
    intro _ hf
    cases r with
    | nil => exact one p (hf p List.mem_cons_self)
    | cons y t =>
      rw [glue_cons _ _ (by simp), two p _ (hf p List.mem_cons_self), ih (by simp) fun q hq => hf q (List.mem_cons_of_mem _ hq)]
theorem split_ne (x : Str) (c : Nat) : Txt.split x ⟨#[c]⟩ ≠ [] := by
  intro h
  have hj := StrLaws.join_split x ⟨#[c]⟩
  rw [h] at hj
  have e : x = S [] := hj.symm
  subst e
  unfold Txt.split at h
  rw [if_pos (by rw [Bool.or_eq_true]; exact .inl (by simp [S, Str.length]))] at h
  exact absurd h (by simp)
theorem txt_split_S (l : List Nat) (c : Nat) : Txt.split (S l) (S [c]) = (cutBy (· == c) l).map S := by
  have hj := StrLaws.join_split (S l) (S [c])
  have hf := StrLaws.split_free (S l) c
  have hne := split_ne (S l) c
  have e : Txt.split (S l) (S [c]) = ((Txt.split (S l) (S [c])).map fun x => x.cps.toList).map S := by
    rw [List.map_map]
    have : (S ∘ fun x : Str => x.cps.toList) = _root_.id := funext fun x => S_of x
    rw [this, List.map_id]
  generalize hps : (Txt.split (S l) (S [c])).map (fun x : Str => x.cps.toList) = ps at e
  rw [e, join_S] at hj
  rw [e]
  congr 1
  rw [← S_inj hj]
  refine (cutBy_uniq c ps ?_ ?_).symm
  · intro h0; rw [h0] at e; exact hne e
  · intro p hp
    rw [← hps] at hp
    obtain ⟨x, hx, rfl⟩ := List.mem_map.mp hp
    exact hf x hx

/-- without the items at both ends that p tells -/
def rtrim (p : Nat → Bool) (l : List Nat) : List Nat := (l.reverse.dropWhile p).reverse
def trim (p : Nat → Bool) (l : List Nat) : List Nat := rtrim p (l.dropWhile p)
theorem drop_takeWhile (p : Nat → Bool) (l : List Nat) : l.drop (l.takeWhile p).length = l.dropWhile p := by
  induction l with
  | nil => rfl
  | cons a r ih =>
    rw [List.takeWhile_cons, List.dropWhile_cons]
    split
    · simpa using ih
    · simp
theorem take_rtrim (p : Nat → Bool) (l : List Nat) : l.take (l.length - (l.reverse.takeWhile p).length) = rtrim p l := by
  unfold rtrim
  rw [← drop_takeWhile, List.reverse_drop, List.reverse_reverse, List.length_reverse]
theorem txt_strip_S (l : List Nat) : Txt.strip (S l) = S (trim Unicode.isSpace l) := by
  unfold Txt.strip
  rw [PyProof.Rows.stripBy_eq]
  refine (S_of _).symm.trans (congrArg S ?_)
  rw [StrLaws.strSub_toList, S_toList]
  simp only [PySem.stripLo, PySem.stripHi, if_true, S_toList, S_length, drop_takeWhile]
  unfold trim
  rw [← take_rtrim]
  congr 1
  have h1 : (l.dropWhile Unicode.isSpace).length + (l.takeWhile Unicode.isSpace).length = l.length := by
    rw [Nat.add_comm, ← List.length_append, List.takeWhile_append_dropWhile]
  have h2 : ((l.dropWhile Unicode.isSpace).reverse.takeWhile Unicode.isSpace).length ≤ (l.dropWhile Unicode.isSpace).length := by
    have := (List.takeWhile_sublist (p := Unicode.isSpace) (l := (l.dropWhile Unicode.isSpace).reverse)).length_le
    simpa using this
  omega
theorem txt_rstrip_S (l : List Nat) : Txt.rstrip (S l) = S (rtrim Unicode.isSpace l) := by
  unfold Txt.rstrip
  rw [PyProof.Rows.stripBy_eq]
  refine (S_of _).symm.trans (congrArg S ?_)
  rw [StrLaws.strSub_toList, S_toList]
  simp only [PySem.stripLo, PySem.stripHi, if_true, Bool.false_eq_true, if_false, S_toList, S_length, List.drop_zero, Nat.sub_zero]
  exact take_rtrim _ l
theorem slice_ss (x : Str) {a b : Nat} (hab : a ≤ b) (hb : b ≤ x.length) : Txt.slice x (some (a : Int)) (some (b : Int)) = S ((x.cps.toList.drop a).take (b - a)) := by
  unfold Txt.slice
  split
  · rename_i h
    rw [StrLaws.strSliceIndices_plain hab hb] at h
    simp only [beq_self_eq_true, Bool.true_and, List.length_map, List.length_range, beq_iff_eq] at h
    obtain rfl : a = 0 := by omega
    obtain rfl : b = x.length := by omega
    rw [List.drop_zero, List.take_of_length_le (by simp [Str.length]), S_of]
  · rw [StrLaws.sliced_plain x hab hb]
    rfl
theorem slice_ns (x : Str) {b : Nat} (hb : b ≤ x.length) : Txt.slice x none (some (b : Int)) = S (x.cps.toList.take b) := by
  have e : strSliceIndices none (some (b : Int)) 1 x.length = strSliceIndices (some ((0 : Nat) : Int)) (some (b : Int)) 1 x.length := by
    unfold strSliceIndices
    have e1 : max (0 : Int) (min (((0 : Nat) : Int)) (x.length : Int)) = 0 := by omega
    simp only [show ((1 : Int) > 0) = True from by simp, if_true, show ¬ (((0 : Nat) : Int) < 0) from by omega, if_false, e1]
  have h := slice_ss x (Nat.zero_le b) hb
  unfold Txt.slice at h ⊢
  rw [e, h]
  simp
theorem slice_sn (x : Str) {a : Nat} (ha : a ≤ x.length) : Txt.slice x (some (a : Int)) none = S (x.cps.toList.drop a) := by
  have e : strSliceIndices (some (a : Int)) none 1 x.length = strSliceIndices (some (a : Int)) (some (x.length : Int)) 1 x.length := by
    unfold strSliceIndices
    have e1 : max (0 : Int) (min (x.length : Int) (x.length : Int)) = x.length := by omega
    simp only [show ((1 : Int) > 0) = True from by simp, if_true, show ¬ ((x.length : Int) < 0) from by omega, if_false, e1]
  have h := slice_ss x ha (Nat.le_refl _)
  unfold Txt.slice at h ⊢
  rw [e, h]
  rw [List.take_of_length_le (by simp [Str.length])]
end Mine
end

section
open PySem PySem.W PyProof.Rows PySem.Calls PySem.Spec PySem.SeqAt
namespace Mine
theorem readsAll_strs {h : Heap} : ∀ {vs : List Value} {ys : List Str}, StrsAre vs ys → ReadsAll h vs (ys.map PyData.str) []
  | _, _, .nil => .nil
  | _, _, .cons y t r => by
    have := ReadsAll.cons (Reads.str (h := h) y t) (readsAll_strs (h := h) r)
    simpa using this
theorem strOk_low {x : Str} (h : x.cps.all (· < 128) = true) : PyData.strOk x = true := by
  unfold PyData.strOk
  rw [← Array.all_toList, List.all_eq_true] at h ⊢
  intro c hc
  have := of_decide_eq_true (h c hc)
  simp
  omega
theorem canLayAll0_strs : ∀ {ys : List Str}, (∀ y ∈ ys, y.cps.all (· < 128) = true) → PyData.canLayAll0 (ys.map PyData.str) = true
  | [], _ => by simp [PyData.canLayAll0]
  | y :: r, h => by
    rw [List.map_cons, PyData.canLayAll0, PyData.canLay0, strOk_low (h y List.mem_cons_self), canLayAll0_strs fun z hz => h z (List.mem_cons_of_mem _ hz)]
    rfl
theorem depthAll_strs : ∀ ys : List Str, PyData.depthAll (ys.map PyData.str) ≤ 1
  | [] => by simp [PyData.depthAll]
  | y :: r => by
    have := depthAll_strs r
    simp only [List.map_cons, PyData.depthAll, PyData.depth]
    omega
theorem shaped_strsL {ys : List Str} (h : ∀ y ∈ ys, y.cps.all (· < 128) = true) : shaped (.list (ys.map PyData.str)) = true := by
  have h1 := depthAll_strs ys
  have h2 : PyData.depth (.list (ys.map PyData.str)) ≤ 64 := by simp only [PyData.depth]; omega
  show (PyData.canLay0 (.list (ys.map PyData.str)) && decide (PyData.depth (.list (ys.map PyData.str)) ≤ 64)) = true
  rw [Bool.and_eq_true]
  exact ⟨by simp only [PyData.canLay0]; exact canLayAll0_strs h, decide_eq_true h2⟩
theorem shaped_strsT {ys : List Str} (h : ∀ y ∈ ys, y.cps.all (· < 128) = true) : shaped (.tuple (ys.map PyData.str)) = true := by
  have h1 := depthAll_strs ys
  have h2 : PyData.depth (.tuple (ys.map PyData.str)) ≤ 64 := by simp only [PyData.depth]; omega
  show (PyData.canLay0 (.tuple (ys.map PyData.str)) && decide (PyData.depth (.tuple (ys.map PyData.str)) ≤ 64)) = true
  rw [Bool.and_eq_true]
  exact ⟨by simp only [PyData.canLay0]; exact canLayAll0_strs h, decide_eq_true h2⟩
theorem two_low {x y : Str} (h1 : x.cps.all (· < 128) = true) (h2 : y.cps.all (· < 128) = true) : ∀ z ∈ [x, y], z.cps.all (· < 128) = true := by
  intro z hz
  rcases List.mem_cons.mp hz with rfl | hz
  · exact h1
  · rw [List.mem_singleton.mp hz]; exact h2
section
variable {prog : Program} {w : World} {A : Around} {E : Value → Shared → Prop} {s : Shared}
theorem eq_nil_strs {a b : Addr} {vs : List Value} {ys : List Str} {Q : Value → Shared → Prop} (hl : s.heap.IsList a vs.toArray) (hi : StrsAre vs ys) (hy : ∀ y ∈ ys, y.cps.all (· < 128) = true) (hl' : s.heap.IsList b #[]) (hu : A.units + 64 < cLine)
    (h : Q (.bool (decide (ys = []))) s) : wpAny (model prog w) A (compareOp .Eq (.ref a) (.ref b)) Q E s := by
  obtain ⟨o, ho, hc, n, hd⟩ := hl
  obtain ⟨o', ho', hc', n', hd'⟩ := hl'
  refine eq_dataH_same (Reads.list ho hc hd (by simpa using readsAll_strs hi)) (Reads.list (xs := []) ho' hc' hd' .nil) (shaped_strsL hy) (by decide) hu ?_ ?_
  · cases ys <;> simp [noMix, noMixAll]
  · have e : Spec.same (.list (ys.map PyData.str)) (.list []) = decide (ys = []) := by cases ys <;> simp [Spec.same, Spec.sameAll]
    rw [e]; exact h
/-- two pairs of texts -/
theorem ne_pairs {a b : Addr} {x y x' y' : Str} {t u t' u' : Tok} {Q : Value → Shared → Prop} (hl : IsTup s.heap a #[.str x t, .str y u]) (hl' : IsTup s.heap b #[.str x' t', .str y' u'])
    (h1 : x.cps.all (· < 128) = true) (h2 : y.cps.all (· < 128) = true) (h3 : x'.cps.all (· < 128) = true) (h4 : y'.cps.all (· < 128) = true) (hu : A.units + 64 < cLine)
    (h : Q (.bool (!decide (x = x' ∧ y = y'))) s) : wpAny (model prog w) A (compareOp .NotEq (.ref a) (.ref b)) Q E s := by
  obtain ⟨o, ho, hc, n, hd⟩ := hl
  obtain ⟨o', ho', hc', n', hd'⟩ := hl'
  have r1 : ReadsAll s.heap [.str x t, .str y u] ([x, y].map PyData.str) [] := readsAll_strs (.cons _ _ (.cons _ _ .nil))
  have r2 : ReadsAll s.heap [.str x' t', .str y' u'] ([x', y'].map PyData.str) [] := readsAll_strs (.cons _ _ (.cons _ _ .nil))
  refine ne_dataH_same (Reads.tuple ho hc hd r1) (Reads.tuple ho' hc' hd' r2) (shaped_strsT (two_low h1 h2)) (shaped_strsT (two_low h3 h4)) hu ?_ ?_
  · simp [noMix, noMixAll]
  · have e : Spec.same (.tuple ([x, y].map PyData.str)) (.tuple ([x', y'].map PyData.str)) = decide (x = x' ∧ y = y') := by
      simp only [List.map_cons, List.map_nil, Spec.same, Spec.sameAll, Bool.and_true]
      by_cases hx : x = x' <;> by_cases hy : y = y' <;> simp [hx, hy]
    rw [e]; exact h
end
end Mine
end

section
open PySem PySem.W PyProof.Rows PySem.Calls
namespace Mine
/-- the places that q tells -/
def idx (q : Nat → Bool) (l : List Nat) : List Nat := (List.range l.length).filter fun i => q (l.getD i 0)
theorem idx_app (q : Nat → Bool) (a b : List Nat) : idx q (a ++ b) = idx q a ++ (idx q b).map (a.length + ·) := by
  unfold idx
  rw [List.length_append, List.range_add, List.filter_append, List.filter_map]
  congr 1
  · apply List.filter_congr
    intro i hi
    have h := List.mem_range.mp hi
    simp [List.getD_eq_getElem?_getD, List.getElem?_append_left h]
  · congr 1
    apply List.filter_congr
    intro i hi
    have h := List.mem_range.mp hi
    simp [List.getD_eq_getElem?_getD, List.getElem?_append_right]
theorem idx_none {q : Nat → Bool} {l : List Nat} (h : ∀ c ∈ l, q c = false) : idx q l = [] := by
  unfold idx
  rw [List.filter_eq_nil_iff]
  intro i hi
  have hlt := List.mem_range.mp hi
  have e : l.getD i 0 = l[i] := by simp [List.getD_eq_getElem?_getD, hlt]
  rw [e, h _ (List.getElem_mem _)]
  decide
theorem idx_one {q : Nat → Bool} {x : Nat} (h : q x = true) : idx q [x] = [0] := by
  unfold idx
  simp [List.range_succ, h]
/-- the first place -/
theorem idx_first {q : Nat → Bool} {p : List Nat} {x : Nat} {r : List Nat} (hp : ∀ c ∈ p, q c = false) (hx : q x = true) : idx q (p ++ x :: r) = p.length :: (idx q r).map (p.length + 1 + ·) := by
  rw [idx_app, idx_none hp, List.nil_append, show x :: r = [x] ++ r from rfl, idx_app, idx_one hx]
  simp
  intro a _
  omega
/-- the last place -/
theorem idx_last {q : Nat → Bool} {a : List Nat} {z : Nat} {v : List Nat} (hv : ∀ c ∈ v, q c = false) (hz : q z = true) : idx q (a ++ z :: v) = idx q a ++ [a.length] := by
  rw [idx_app, show z :: v = [z] ++ v from rfl, idx_app, idx_one hz, idx_none hv]
  simp
theorem split_first (q : Nat → Bool) : ∀ l : List Nat, (∀ c ∈ l, q c = false) ∨ ∃ p x r, l = p ++ x :: r ∧ (∀ c ∈ p, q c = false) ∧ q x = true
  | [] => .inl (by simp)
  | c :: l => by
    cases hc : q c with
    | true => exact .inr ⟨[], c, l, rfl, by simp, hc⟩
    | false =>
      rcases split_first q l with h | ⟨p, x, r, rfl, hp, hx⟩
      · refine .inl fun d hd => ?_
        rcases List.mem_cons.mp hd with rfl | hd
        · exact hc
        · exact h d hd
      · refine .inr ⟨c :: p, x, r, rfl, fun d hd => ?_, hx⟩
        rcases List.mem_cons.mp hd with rfl | hd
        · exact hc
        · exact hp d hd
theorem cut_none {q : Nat → Bool} : ∀ {l : List Nat}, (∀ c ∈ l, q c = false) → cutBy q l = [l]
  | [], _ => rfl
  | c :: r, h => by
    rw [cutBy, if_neg (by rw [h c List.mem_cons_self]; decide), cut_none fun d hd => h d (List.mem_cons_of_mem _ hd)]
theorem cut_first {q : Nat → Bool} {x : Nat} {r : List Nat} (hx : q x = true) : ∀ {p : List Nat}, (∀ c ∈ p, q c = false) → cutBy q (p ++ x :: r) = p :: cutBy q r
  | [], _ => by rw [List.nil_append, cutBy, if_pos hx]
  | c :: p, h => by
    rw [List.cons_append, cutBy, if_neg (by rw [h c List.mem_cons_self]; decide), cut_first hx fun d hd => h d (List.mem_cons_of_mem _ hd)]

/-- what is trimmed off, and what is left -/
theorem trim_parts (w : Nat → Bool) (l : List Nat) : (∀ c ∈ l, w c = true) ∧ trim w l = [] ∨
    ∃ u m z v, l = u ++ (m ++ [z]) ++ v ∧ trim w l = m ++ [z] ∧ (∀ c ∈ u, w c = true) ∧ (∀ c ∈ v, w c = true) ∧ w z = false ∧ ∃ x t, m ++ [z] = x :: t ∧ w x = false := by
  have hu : ∀ (l : List Nat), ∀ c ∈ l.takeWhile w, w c = true := by
    intro l c hc
    induction l with
    | nil => simp at hc
    | cons a r ih =>
      rw [List.takeWhile_cons] at hc
      split at hc
      · rename_i ha
        rcases List.mem_cons.mp hc with rfl | hc
        · exact ha
        · exact ih hc
      · simp at hc
  have hd : ∀ (l : List Nat), l.dropWhile w = [] ∨ ∃ x t, l.dropWhile w = x :: t ∧ w x = false := by
    intro l
    induction l with
    | nil => exact .inl rfl
    | cons a r ih =>
      rw [List.dropWhile_cons]
      split
      · exact ih
      · rename_i ha
        exact .inr ⟨a, r, rfl, by simpa using ha⟩
  have e1 : l = l.takeWhile w ++ l.dropWhile w := (List.takeWhile_append_dropWhile).symm
  rcases hd l with h0 | ⟨x, t, hxt, hx⟩
  · left
    rw [h0, List.append_nil] at e1
    refine ⟨fun c hc => hu l c (e1 ▸ hc), ?_⟩
    unfold trim rtrim
    rw [h0]
    rfl
  · right
    have e2 : (l.dropWhile w).reverse = (l.dropWhile w).reverse.takeWhile w ++ (l.dropWhile w).reverse.dropWhile w := (List.takeWhile_append_dropWhile).symm
    have e3 : l.dropWhile w = trim w l ++ ((l.dropWhile w).reverse.takeWhile w).reverse := by
      have := congrArg List.reverse e2
      rw [List.reverse_reverse, List.reverse_append] at this
      exact this
    rcases hd (l.dropWhile w).reverse with h1 | ⟨z, m, hzm, hz⟩
    · exfalso
      rw [h1, List.append_nil] at e2
      have hm : x ∈ (l.dropWhile w).reverse.takeWhile w := by rw [← e2, hxt]; simp
      rw [hu _ x hm] at hx
      cases hx
    · have et : trim w l = m.reverse ++ [z] := by
        unfold trim rtrim
        rw [hzm]
        simp
      refine ⟨l.takeWhile w, m.reverse, z, ((l.dropWhile w).reverse.takeWhile w).reverse, ?_, et, hu l, ?_, hz, ?_⟩
      · rw [← et, List.append_assoc, ← e3, ← e1]
      · intro c hc
        exact hu _ c (List.mem_reverse.mp hc)
      · rw [et, hxt] at e3
        cases hmm : m.reverse with
        | nil =>
          rw [hmm] at e3
          simp at e3
          exact ⟨z, [], by simp, hz⟩
        | cons y s =>
          rw [hmm] at e3
          simp at e3
          exact ⟨y, s ++ [z], by simp, e3.1 ▸ hx⟩
end Mine
end

section
open PySem PySem.W PyProof.Rows PySem.Calls
namespace Mine
theorem top_off_C1 : True := by
  w_top off
  trivial
def ctl (x : Int) : Int := [9, 10, 11, 12, 13, 28, 29, 30, 31, 1, 27, 127].getD (Int.fmod (Int.fdiv x 5) 12).toNat 0
theorem ctl_mem (x : Int) : ctl x ∈ ([9, 10, 11, 12, 13, 28, 29, 30, 31, 1, 27, 127] : List Int) := by
  have h1 : (Int.fmod (Int.fdiv x 5) 12).toNat < 12 := by
    have := Int.fmod_lt_of_pos (Int.fdiv x 5) (b := 12) (by decide)
    have := Int.fmod_nonneg_of_pos (Int.fdiv x 5) (b := 12) (by decide)
    omega
  unfold ctl
  generalize (Int.fmod (Int.fdiv x 5) 12).toNat = k at h1
  revert k
  decide
theorem ctl_lo (x : Int) : 0 ≤ ctl x := (show ∀ y ∈ ([9, 10, 11, 12, 13, 28, 29, 30, 31, 1, 27, 127] : List Int), 0 ≤ y by decide) _ (ctl_mem x)
theorem ctl_hi (x : Int) : ctl x ≤ 127 := (show ∀ y ∈ ([9, 10, 11, 12, 13, 28, 29, 30, 31, 1, 27, 127] : List Int), y ≤ 127 by decide) _ (ctl_mem x)
theorem ctl_top (x : Int) : ctl x ≤ 1114111 := by have := ctl_hi x; omega
/-- the code of the sign that a number tells -/
def sgc (x : Int) : Nat := if Int.fmod x 5 = 0 then 10 else if Int.fmod x 5 = 1 then 32 else if Int.fmod x 5 = 2 then (ctl x).toNat else if Int.fmod x 5 = 3 then (Int.fmod (Int.fdiv x 60) 128).toNat else 97
def one (c : Nat) : Str := ⟨#[c]⟩

theorem fmod5 (x : Int) : Int.fmod x 5 = 0 ∨ Int.fmod x 5 = 1 ∨ Int.fmod x 5 = 2 ∨ Int.fmod x 5 = 3 ∨ Int.fmod x 5 = 4 := by
  have := Int.fmod_lt_of_pos x (b := 5) (by decide)
  have := Int.fmod_nonneg_of_pos x (b := 5) (by decide)
  omega
theorem sign_item (x : Int) (a b c d e : Tok) : ∃ u, [Value.str (Str.ofString "\n") a, Value.str (Str.ofString " ") b, Value.str ⟨#[(ctl x).toNat]⟩ c, Value.str ⟨#[(Int.fmod (Int.fdiv x 60) 128).toNat]⟩ d, Value.str (Str.ofString "a") e][(Int.fmod x 5).toNat]? = some (Value.str (one (sgc x)) u) := by
  rcases fmod5 x with h | h | h | h | h <;> unfold sgc one <;> simp only [h]
  · exact ⟨a, rfl⟩
  · exact ⟨b, rfl⟩
  · exact ⟨c, rfl⟩
  · exact ⟨d, rfl⟩
  · exact ⟨e, rfl⟩

section
variable {w : World} {loose : List Str} {mean : ExcName → Option Value} {mg mb : Str → Option Value} {news : List (Addr × Obj)}
  {dp un : Nat} {gd : Option (List Code)} {cn : Str} {cs : Scope} {a : Addr} {ccd : Value} {cl : List (Str × Addr)} {outer : List Env} {A₀ : Around} {base h₀ : Heap} {L : Addr} {m : Str → Option Value} {s : Shared} {Q E : Value → Shared → Prop}

set_option maxRecDepth 100000 in
set_option maxHeartbeats 4000000 in
theorem c_control {x : Int} {tx : Tok}
  (B : Below A₀ base outer h₀) (F : Fr h₀ L s.heap m) (X : (hd.heap_39 w.params).In h₀) (N : News h₀ L s.heap news) (T : Top hd.view_39 loose mean mg mb h₀) (hk : cs.kind = .function)
  (hroom : dp + 1 < recursionLimit) (hu : un + 8 < cLine)
  (hret : ∀ (t : Tok) (h' : Heap) (tk' : Nat), Fr h₀ L h' m → News h₀ L h' news → Q (.int (ctl x) t) { s with heap := h', toks := tk' }) :
  wpAny (model PySem.Challenge.rw_mq0056_01.row.prog w) (ktrTop dp un gd cn cs L a ccd cl outer) (call (.ref 56) [.int x tx]) Q E s := by
  revert X; k_fill; intro X
  refine wpAny_call ?_
  k_dflt cell_enter
  k_steps
  exact hret _ _ _ (by assumption) (cb_drop (by assumption) fun p hp => .tail _ hp)

local macro_rules | `(tactic| walk_at "call ref") => `(tactic| (k_here; (with_reducible show wpAny _ _ (call (Value.ref 56) [Value.int _ _]) _ _ _); k_dflt (refine' c_control ?k1 ?k2 ?k3 ?k4 ?k5 ?k6 ?k7 ?k8 ?_; (case k1 => k_asm); (case k2 => k_asm); (case k3 => k_asm); (case k4 => k_asm); (case k5 => k_asm); (case k6 => first | exact rfl | assumption); (case k7 => ktr_room); (case k8 => ktr_units); k_whole); intro t' h' tk' F' N'; (try dsimp only); (try k_sweep); (try k_fold)))
local macro_rules | `(tactic| walk_at "call builtin:chr") => `(tactic| (k_here; (with_reducible show wpAny _ _ (call (Value.builtin "chr") [Value.int (ctl _) _]) _ _ _); refine chr_of_range (ctl_lo _) (ctl_top _) ?_))

set_option maxRecDepth 100000 in
set_option maxHeartbeats 4000000 in
theorem c_sign {x : Int} {tx : Tok}
  (B : Below A₀ base outer h₀) (F : Fr h₀ L s.heap m) (X : (hd.heap_39 w.params).In h₀) (N : News h₀ L s.heap news) (T : Top hd.view_39 loose mean mg mb h₀) (hk : cs.kind = .function)
  (hroom : dp + 2 < recursionLimit) (hu : un + 16 < cLine)
  (hret : ∀ (t : Tok) (h' : Heap) (tk' : Nat), Fr h₀ L h' m → News h₀ L h' news → Q (.str (one (sgc x)) t) { s with heap := h', toks := tk' }) :
  wpAny (model PySem.Challenge.rw_mq0056_01.row.prog w) (ktrTop dp un gd cn cs L a ccd cl outer) (call (.ref 63) [.int x tx]) Q E s := by
  revert X; k_fill; intro X
  refine wpAny_call ?_
  k_dflt cell_enter
  k_steps
  obtain ⟨u, hu⟩ := sign_item x _ _ _ _ _
  refine item_litK (News.isList (by k_asm) (List.Mem.head _)) (Int.fmod_nonneg_of_pos x (by decide)) ?_ hu ?_ (by with_unfolding_all rfl)
  · have := Int.fmod_lt_of_pos x (b := 5) (by decide)
    omega
  k_steps
  exact hret _ _ _ (by assumption) (cb_drop (by assumption) fun p hp => .tail _ hp)
end
end Mine
end

section
open PySem PySem.W PyProof.Rows PySem.Calls
namespace Mine
theorem top_off_C2 : True := by
  w_top off
  trivial
def ctls : List Nat := [9, 10, 11, 12, 13, 28, 29, 30, 31, 1, 27, 127]
/-- a caret and the sign with bit 64 turned -/
def car (k : Nat) : Str := ⟨#[94, k ^^^ 64]⟩
section
variable {w : World} {loose : List Str} {mean : ExcName → Option Value} {mg mb : Str → Option Value} {news : List (Addr × Obj)}
  {dp un : Nat} {gd : Option (List Code)} {cn : Str} {cs : Scope} {a : Addr} {ccd : Value} {cl : List (Str × Addr)} {outer : List Env} {A₀ : Around} {base h₀ : Heap} {L : Addr} {m : Str → Option Value} {s : Shared} {Q E : Value → Shared → Prop}

set_option maxRecDepth 100000 in
set_option maxHeartbeats 4000000 in
theorem c_ctoiS {c : Nat} {tx : Tok}
  (B : Below A₀ base outer h₀) (F : Fr h₀ L s.heap m) (X : (hd.heap_39 w.params).In h₀) (N : News h₀ L s.heap news) (T : Top hd.view_39 loose mean mg mb h₀) (hk : cs.kind = .function)
  (hroom : dp + 1 < recursionLimit) (_hu : un + 8 < cLine)
  (hret : ∀ (t : Tok) (h' : Heap) (tk' : Nat), Fr h₀ L h' m → News h₀ L h' news → Q (.int (c : Int) t) { s with heap := h', toks := tk' }) :
  wpAny (model PySem.Challenge.rw_mq0056_01.row.prog w) (ktrTop dp un gd cn cs L a ccd cl outer) (call (.ref 35) [.str ⟨#[c]⟩ tx]) Q E s := by
  revert X; k_fill; intro X
  refine wpAny_call ?_
  k_dflt cell_enter
  k_steps
  exact hret _ _ _ (by assumption) (by assumption)

set_option maxRecDepth 100000 in
set_option maxHeartbeats 4000000 in
theorem c_ctoiI {c : Int} {tx : Tok}
  (B : Below A₀ base outer h₀) (F : Fr h₀ L s.heap m) (X : (hd.heap_39 w.params).In h₀) (N : News h₀ L s.heap news) (T : Top hd.view_39 loose mean mg mb h₀) (hk : cs.kind = .function)
  (hroom : dp + 1 < recursionLimit) (_hu : un + 8 < cLine)
  (hret : ∀ (t : Tok) (h' : Heap) (tk' : Nat), Fr h₀ L h' m → News h₀ L h' news → Q (.int c t) { s with heap := h', toks := tk' }) :
  wpAny (model PySem.Challenge.rw_mq0056_01.row.prog w) (ktrTop dp un gd cn cs L a ccd cl outer) (call (.ref 35) [.int c tx]) Q E s := by
  revert X; k_fill; intro X
  refine wpAny_call ?_
  k_dflt cell_enter
  k_steps
  exact hret _ _ _ (by assumption) (by assumption)

local macro_rules | `(tactic| walk_at "call ref") => `(tactic| (k_here; (with_reducible show wpAny _ _ (call (Value.ref 35) [Value.int _ _]) _ _ _); k_dflt (refine' c_ctoiI ?k1 ?k2 ?k3 ?k4 ?k5 ?k6 ?k7 ?k8 ?_; (case k1 => k_asm); (case k2 => k_asm); (case k3 => k_asm); (case k4 => k_asm); (case k5 => k_asm); (case k6 => first | exact rfl | assumption); (case k7 => ktr_room); (case k8 => ktr_units); k_whole); intro t' h' tk' F' N'; (try dsimp only); (try k_sweep); (try k_fold)))
local macro_rules | `(tactic| walk_at "call ref") => `(tactic| (k_here; (with_reducible show wpAny _ _ (call (Value.ref 35) [Value.str _ _]) _ _ _); k_dflt (refine' c_ctoiS ?k1 ?k2 ?k3 ?k4 ?k5 ?k6 ?k7 ?k8 ?_; (case k1 => k_asm); (case k2 => k_asm); (case k3 => k_asm); (case k4 => k_asm); (case k5 => k_asm); (case k6 => first | exact rfl | assumption); (case k7 => ktr_room); (case k8 => ktr_units); k_whole); intro t' h' tk' F' N'; (try dsimp only); (try k_sweep); (try k_fold)))

set_option maxRecDepth 100000 in
set_option maxHeartbeats 4000000 in
theorem c_isprint {c : Int} {tx : Tok}
  (B : Below A₀ base outer h₀) (F : Fr h₀ L s.heap m) (X : (hd.heap_39 w.params).In h₀) (N : News h₀ L s.heap news) (T : Top hd.view_39 loose mean mg mb h₀) (hk : cs.kind = .function)
  (hroom : dp + 2 < recursionLimit) (_hu : un + 16 < cLine)
  (hret : ∀ (h' : Heap) (tk' : Nat), Fr h₀ L h' m → News h₀ L h' news → Q (.bool (decide (32 ≤ c) && decide (c ≤ 126))) { s with heap := h', toks := tk' }) :
  wpAny (model PySem.Challenge.rw_mq0056_01.row.prog w) (ktrTop dp un gd cn cs L a ccd cl outer) (call (.ref 42) [.int c tx]) Q E s := by
  revert X; k_fill; intro X
  refine wpAny_call ?_
  k_dflt cell_enter
  k_steps
  · have e : (decide (32 ≤ c) && decide (c ≤ 126)) = decide (c ≤ 126) := by simp [*]
    rw [e] at hret
    exact hret _ _ (by assumption) (by assumption)
  · have e : (decide (32 ≤ c) && decide (c ≤ 126)) = decide (32 ≤ c) := by simp [*]
    rw [e] at hret
    exact hret _ _ (by assumption) (by assumption)

local macro_rules | `(tactic| walk_at "call ref") => `(tactic| (k_here; (with_reducible show wpAny _ _ (call (Value.ref 42) [Value.int _ _]) _ _ _); k_dflt (refine' c_isprint ?k1 ?k2 ?k3 ?k4 ?k5 ?k6 ?k7 ?k8 ?_; (case k1 => k_asm); (case k2 => k_asm); (case k3 => k_asm); (case k4 => k_asm); (case k5 => k_asm); (case k6 => first | exact rfl | assumption); (case k7 => ktr_room); (case k8 => ktr_units); k_whole); intro h' tk' F' N'; (try dsimp only); (try k_sweep); (try k_fold)))

theorem and127 {M : Program} {w : World} {A : Around} {E : Value → Shared → Prop} {s : Shared} {c : Nat} {t u : Tok} {Q : Value → Shared → Prop} (hc : c < 32) (h : Q (.int (c : Int) s.toks) { s with toks := s.toks + 1 }) :
    wpAny (model M w) A (binaryOp .BitAnd (.int (c : Int) t) (.int 127 u)) Q E s :=
  and_int (by rw [show Builtin.bitAnd (c : Int) 127 = (c : Int) from (show ∀ c : Nat, c < 32 → Builtin.bitAnd (c : Int) 127 = (c : Int) by decide +kernel) c hc]; exact h)
theorem and128 {M : Program} {w : World} {A : Around} {E : Value → Shared → Prop} {s : Shared} {c : Nat} {t u : Tok} {Q : Value → Shared → Prop} (hc : c < 32) (h : Q (.int 0 s.toks) { s with toks := s.toks + 1 }) :
    wpAny (model M w) A (binaryOp .BitAnd (.int (c : Int) t) (.int 128 u)) Q E s :=
  and_int (by rw [show Builtin.bitAnd (c : Int) 128 = 0 from (show ∀ c : Nat, c < 32 → Builtin.bitAnd (c : Int) 128 = 0 by decide +kernel) c hc]; exact h)
theorem or32 {M : Program} {w : World} {A : Around} {E : Value → Shared → Prop} {s : Shared} {c : Nat} {t u : Tok} {Q : Value → Shared → Prop} (hc : c < 32) (h : Q (.int ((c : Int) + 32) s.toks) { s with toks := s.toks + 1 }) :
    wpAny (model M w) A (binaryOp .BitOr (.int (c : Int) t) (.int 32 u)) Q E s :=
  or_int (by rw [show Builtin.bitOr (c : Int) 32 = (c : Int) + 32 from (show ∀ c : Nat, c < 32 → Builtin.bitOr (c : Int) 32 = (c : Int) + 32 by decide +kernel) c hc]; exact h)
theorem car_low : ∀ c : Nat, c < 32 → car c = Str.ofString "^" ++ (⟨#[((c : Int) + 32 + 32).toNat]⟩ : Str) := by decide +kernel
theorem car_127 : car 127 = Str.ofString "^?" := by decide +kernel

local macro_rules | `(tactic| walk_at "binaryOp BitAnd int int") => `(tactic| (k_here; first | refine and127 (by assumption) ?_ | refine and128 (by assumption) ?_))
local macro_rules | `(tactic| walk_at "binaryOp BitOr int int") => `(tactic| (k_here; refine or32 (by assumption) ?_))

set_option maxRecDepth 100000 in
set_option maxHeartbeats 4000000 in
theorem c_unctrlA {c : Nat} (hc : c < 32) {tx : Tok}
  (B : Below A₀ base outer h₀) (F : Fr h₀ L s.heap m) (X : (hd.heap_39 w.params).In h₀) (N : News h₀ L s.heap news) (T : Top hd.view_39 loose mean mg mb h₀) (hk : cs.kind = .function)
  (hroom : dp + 3 < recursionLimit) (_hu : un + 24 < cLine)
  (hret : ∀ (t : Tok) (h' : Heap) (tk' : Nat), Fr h₀ L h' m → News h₀ L h' news → Q (.str (car c) t) { s with heap := h', toks := tk' }) :
  wpAny (model PySem.Challenge.rw_mq0056_01.row.prog w) (ktrTop dp un gd cn cs L a ccd cl outer) (call (.ref 49) [.str ⟨#[c]⟩ tx]) Q E s := by
  revert X; k_fill; intro X
  refine wpAny_call ?_
  k_dflt cell_enter
  k_steps
  · exfalso; omega
  · rw [car_low c hc] at hret
    exact hret _ _ _ (by assumption) (by assumption)

set_option maxRecDepth 100000 in
set_option maxHeartbeats 4000000 in
theorem c_unctrlB {tx : Tok}
  (B : Below A₀ base outer h₀) (F : Fr h₀ L s.heap m) (X : (hd.heap_39 w.params).In h₀) (N : News h₀ L s.heap news) (T : Top hd.view_39 loose mean mg mb h₀) (hk : cs.kind = .function)
  (hroom : dp + 3 < recursionLimit) (_hu : un + 24 < cLine)
  (hret : ∀ (t : Tok) (h' : Heap) (tk' : Nat), Fr h₀ L h' m → News h₀ L h' news → Q (.str (car 127) t) { s with heap := h', toks := tk' }) :
  wpAny (model PySem.Challenge.rw_mq0056_01.row.prog w) (ktrTop dp un gd cn cs L a ccd cl outer) (call (.ref 49) [.str ⟨#[127]⟩ tx]) Q E s := by
  rw [car_127] at hret
  revert X; k_fill; intro X
  refine wpAny_call ?_
  k_dflt cell_enter
  k_steps
  exact hret _ _ _ (by assumption) (by assumption)

theorem ctls_cases {c : Nat} (h : c ∈ ctls) : c < 32 ∨ c = 127 := (show ∀ c ∈ ctls, c < 32 ∨ c = 127 by decide) c h

theorem c_unctrl {c : Nat} (hc : c ∈ ctls) {tx : Tok}
  (B : Below A₀ base outer h₀) (F : Fr h₀ L s.heap m) (X : (hd.heap_39 w.params).In h₀) (N : News h₀ L s.heap news) (T : Top hd.view_39 loose mean mg mb h₀) (hk : cs.kind = .function)
  (hroom : dp + 3 < recursionLimit) (hu : un + 24 < cLine)
  (hret : ∀ (t : Tok) (h' : Heap) (tk' : Nat), Fr h₀ L h' m → News h₀ L h' news → Q (.str (car c) t) { s with heap := h', toks := tk' }) :
  wpAny (model PySem.Challenge.rw_mq0056_01.row.prog w) (ktrTop dp un gd cn cs L a ccd cl outer) (call (.ref 49) [.str ⟨#[c]⟩ tx]) Q E s := by
  rcases ctls_cases hc with h | h
  · exact c_unctrlA h B F X N T hk hroom hu hret
  · subst h
    exact c_unctrlB B F X N T hk hroom hu hret
end
end Mine
end

section
open PySem PySem.W PyProof.Rows PySem.Calls
namespace Mine
theorem top_off_C3 : True := by
  w_top off
  trivial
/-- one sign, written -/
def wr1 (ns : List Int) (c : Nat) : List Nat := if (ns.any fun x => x == (c : Int)) = true then [94, c ^^^ 64] else [c]
/-- a text, written -/
def wrl (ns : List Int) (l : List Nat) : List Nat := l.flatMap (wr1 ns)
theorem sl64 {n : Nat} (h : n ≤ 64) : n ≤ sizeLine := by rw [sizeLine_eq]; omega
theorem chr_xor {M : Program} {w : World} {A : Around} {E : Value → Shared → Prop} {s : Shared} {c : Nat} {t : Tok} {Q : Value → Shared → Prop} (hc : c < 128) (h : Q (.str ⟨#[c ^^^ 64]⟩ s.toks) { s with toks := s.toks + 1 }) :
    wpAny (model M w) A (call (.builtin "chr") [.int (Builtin.bitXor (c : Int) 64) t]) Q E s := by
  have e : Builtin.bitXor (c : Int) 64 = ((c ^^^ 64 : Nat) : Int) ∧ c ^^^ 64 < 128 := (show ∀ c : Nat, c < 128 → Builtin.bitXor (c : Int) 64 = ((c ^^^ 64 : Nat) : Int) ∧ c ^^^ 64 < 128 by decide +kernel) c hc
  rw [e.1]
  exact chr_of_range (by omega) (by omega) (by simpa using h)
theorem low_of {x : Str} (ha : x.cps.all (· < 128) = true) {i c : Nat} (h : x.cps[i]? = some c) : c < 128 := by
  rw [Array.all_eq_true] at ha
  obtain ⟨hi, rfl⟩ := Array.getElem?_eq_some_iff.mp h
  exact of_decide_eq_true (ha i hi)
theorem getD_of {x : Str} {i c : Nat} (h : x.cps[i]? = some c) : x.cps.getD i 0 = c := by
  obtain ⟨hi, rfl⟩ := Array.getElem?_eq_some_iff.mp h
  simp [hi]
theorem range_getD {β : Type} (x : Str) (f : Nat → β) : ((List.range x.cps.size).map fun i => f (x.cps.getD i 0)) = x.cps.toList.map f := by
  apply List.ext_getElem
  · simp
  · intro i h1 h2
    have hi : i < x.cps.size := by simpa using h2
    simp [hi]
theorem wrl_len (ns : List Int) : ∀ l : List Nat, (wrl ns l).length ≤ 2 * l.length
  | [] => by simp [wrl]
  | c :: r => by
    have ih := wrl_len ns r
    have : (wr1 ns c).length ≤ 2 := by unfold wr1; split <;> simp
    simp only [wrl, List.flatMap_cons, List.length_append, List.length_cons] at ih ⊢
    omega
theorem sum_flat (f : Nat → List Nat) (l : List Nat) : ((l.map fun c => S (f c)).map (·.length)).sum = (l.flatMap f).length := by
  induction l with
  | nil => rfl
  | cons c r ih => simp only [List.map_cons, List.sum_cons, List.flatMap_cons, List.length_append, S_length]; rw [ih]

local macro_rules | `(tactic| k_mem) => `(tactic| assumption)
local macro_rules | `(tactic| walk_at "compareOp In int ref") => `(tactic| (k_here; k_dflt (refine in_list_ints (News.isList (by k_asm) (by k_mem)) (by assumption) ?_)))
local macro_rules | `(tactic| walk_at "call builtin:chr") => `(tactic| (k_here; refine chr_xor (by assumption) ?_))
local macro_rules | `(tactic| walk_at "eval ListComp") => `(tactic| (k_here; k_dflt (refine ListComp_S (by k_asm) (by with_unfolding_all rfl) (by decide) (by rfl) (by decide) (by rfl) ?_)))

section
variable {w : World} {loose : List Str} {mean : ExcName → Option Value} {mg mb : Str → Option Value} {news : List (Addr × Obj)}
  {dp un : Nat} {gd : Option (List Code)} {cn : Str} {cs : Scope} {a : Addr} {ccd : Value} {cl : List (Str × Addr)} {outer : List Env} {A₀ : Around} {base h₀ : Heap} {L : Addr} {m : Str → Option Value} {s : Shared} {Q E : Value → Shared → Prop}

set_option pp.deepTerms false in
set_option pp.deepTerms.threshold 6 in
set_option maxRecDepth 100000 in
set_option maxHeartbeats 4000000 in
theorem c_written {x : Str} {ns : List Int} {vs : List Value} {l : Addr} {k : Nat} {tx : Tok} (hx : x.length ≤ 64) (ha : x.cps.all (· < 128) = true)
  (hl : (l, ({ cls := .type "list", data := .seq vs.toArray k } : Obj)) ∈ news) (hn : IntsAre vs ns)
  (B : Below A₀ base outer h₀) (F : Fr h₀ L s.heap m) (X : (hd.heap_39 w.params).In h₀) (N : News h₀ L s.heap news) (T : Top hd.view_39 loose mean mg mb h₀) (hk : cs.kind = .function)
  (hroom : dp + 1 < recursionLimit) (_hu : un + 8 < cLine)
  (hret : ∀ (t : Tok) (h' : Heap) (tk' : Nat), Fr h₀ L h' m → News h₀ L h' news → Q (.str (S (wrl ns x.cps.toList)) t) { s with heap := h', toks := tk' }) :
  wpAny (model PySem.Challenge.rw_mq0056_01.row.prog w) (ktrTop dp un gd cn cs L a ccd cl outer) (call (.ref 68) [.str x tx, .ref l]) Q E s := by
  revert X; k_fill; intro X
  refine wpAny_call ?_
  k_dflt (refine' code_defC ?k1 ?k2 ?k3 ?k4 ?k5 ?kA ?kF ?kK ?k6 ?k7 ?k8 ?k9 ?kB ?kD ?_ ?c2 ?c3 ?c4; (case kA => exact rfl); (case kF => exact rfl); (case kK => assumption); (case k1 => k_asm); (case k2 => k_asm); (case k3 => k_asm); (case k4 => k_asm); (case k5 => k_asm); (case k6 => k_is); (case k7 => k_is); (case k8 => ktr_room); (case k9 => exact BindsTo.of_eq rfl); (case kB => exact rfl); (case kD => decide +kernel); (case c2 => exact rfl); (case c3 => exact rfl); (case c4 => exact rfl); k_whole; intro g' L' h' tk' cells' FG' F' N' Y' B' X' T' l1; k_cells Y'; (try simp only [List.cons_append, List.nil_append] at N'); (try dsimp only); (try k_lift B'); (try k_fold))
  k_steps
  refine ⟨x, tx, _, rfl, rfl, ha, sl64 hx, by assumption, by assumption, fun g => ?_⟩
  refine rest_U (fun i y => ∃ t, y = .str (S (wr1 ns (x.cps.getD i 0))) t) trivial ?_ ?_
  · intro i v I oI C oC D m₂ ys h tk E' hi hv hC hx' F N off ne
    obtain ⟨c, u, hc, rfl⟩ := hv
    have hc8 := low_of ha hc
    (try k_fold)
    k_steps
    · refine TurnEnd.intro (by assumption) (by assumption) ?_
      rw [getD_of hc, wr1, if_pos (by assumption)]
      exact ⟨_, rfl⟩
    · refine TurnEnd.intro (by assumption) (by assumption) ?_
      rw [getD_of hc, wr1, if_neg (by simp [*])]
      exact ⟨_, rfl⟩
  · intro ys hys
    have hst := hys.strs
    rw [range_getD x (fun c => S (wr1 ns c))] at hst
    unfold LCg.FinE
    intro D h tk F N off
    k_steps
    refine join_list (News.isList (by k_asm) (List.Mem.head _)) hst ?_ ?_
    · rw [sum_flat, show (Str.ofString "").length = 0 by decide, Nat.mul_zero, Nat.add_zero]
      have h2 := wrl_len ns x.cps.toList
      have e : x.cps.toList.length = x.length := by simp [Str.length]
      exact Nat.le_trans h2 (by omega)
    · intro t' k'
      rw [show Str.ofString "" = S [] by decide, txt_join_nil]
      k_steps
      exact hret _ _ _ (by assumption) (cb_drop (by assumption) fun p hp => .tail _ (.tail _ hp))
end
end Mine
end

section
open PySem PySem.W PyProof.Rows PySem.Calls
namespace Mine
theorem top_off_C4 : True := by
  w_top off
  trivial
theorem range_filter_getD {α : Type} (d : α) (q : α → Bool) (l : List α) : ((List.range l.length).filter fun i => q (l.getD i d)).map (fun i => l.getD i d) = l.filter q := by
  have e : (List.range l.length).map (fun i => l.getD i d) = l := by
    apply List.ext_getElem
    · simp
    · intro i h1 h2
      have hi : i < l.length := by simpa using h2
      simp [hi]
  have f : ((List.range l.length).map (fun i => l.getD i d)).filter q = ((List.range l.length).filter fun i => q (l.getD i d)).map (fun i => l.getD i d) := by
    rw [List.filter_map]
    rfl
  rw [← f, e]
/-- the codes of the white signs -/
def whT : List Int := [9, 10, 11, 12, 13, 28, 29, 30, 31, 32]
/-- those that are not written -/
def whs (ns : List Int) : List Int := whT.filter fun c => !(ns.any fun x => x == c)
local macro_rules | `(tactic| k_mem) => `(tactic| assumption)
local macro_rules | `(tactic| walk_at "compareOp In int ref") => `(tactic| (k_here; k_dflt (refine in_list_ints (News.isList (by k_asm) (by k_mem)) (by assumption) ?_)))
local macro_rules | `(tactic| walk_at "compareOp NotIn int ref") => `(tactic| (k_here; k_dflt (refine notin_list_ints (News.isList (by k_asm) (by k_mem)) (by assumption) ?_)))
local macro_rules | `(tactic| walk_at "exec Assign cons ListComp") => `(tactic| (k_here; k_dflt (refine' LCt.Assign_ListComp_T (F₀ := by k_asm) ?i ?j ?a ?b ?c ?d ?e ?k ?l ?_ ?g; (case i => rfl); (case j => exact swaps_local (by with_unfolding_all rfl)); (case a => with_unfolding_all rfl); (case b => decide); (case c => rfl); (case d => decide); (case e => rfl); (case k => rfl); (case l => rfl); (case g => intro _; rfl))))
local macro_rules | `(tactic| walk_at "exec Assign cons ListComp") => `(tactic| (k_here; (with_reducible show wpAny _ _ (exec (Stmt.Assign [Expr.Name (Str.ofString "white") _] _ _) _) _ _ _); refine wpAny_Assign_Name ?_ (swaps_cell (by with_unfolding_all rfl))))
local macro_rules | `(tactic| walk_at "eval ListComp") => `(tactic| (k_here; k_dflt (refine' LCt.ListComp_T (F₀ := by k_asm) ?a ?b ?c ?d ?e ?_ ?g; (case a => with_unfolding_all rfl); (case b => decide); (case c => rfl); (case d => decide); (case e => rfl); (case g => intro _; rfl))))

theorem all_ne {news : List (Addr × Obj)} {K d : Nat} (h : ∀ p ∈ news, p.1 < K) (hd : K ≤ d) : ∀ p ∈ news, p.1 ≠ d := fun p hp => Nat.ne_of_lt (Nat.lt_of_lt_of_le (h p hp) hd)
/-- the walk waits here -/
def Halt (P : Prop) : Prop := P
theorem Halt.out {P : Prop} (h : Halt P) : P := h
local macro_rules | `(tactic| k_all) => `(tactic| exact all_ne (by assumption) (by omega))
local macro_rules | `(tactic| walk_at "CompSrcT") => `(tactic| (k_here; refine Halt.out ?_))

theorem range_size (n : Nat) : Builtin.Range.rangeSize 0 (n : Int) 1 = ((n : Nat) : Int) := by
  rw [rangeSize_nat]; omega
theorem range_small {n : Nat} (h : n ≤ 64) : Builtin.Range.small 0 (n : Int) 1 = true := small_one (by decide) (by decide) (by omega) (by omega)
theorem item_nat {M : Program} {w : World} {A : Around} {E : Value → Shared → Prop} {s : Shared} {value slice : Expr} {x : Str} {i : Nat} {t u : Tok} {Q : Value → Shared → Prop} (hi : i < x.length) (hx : x.length ≤ 64) (h : Q (.str ⟨#[x.cps.toList.getD i 0]⟩ s.toks) { s with toks := s.toks + 1 })
    (hs : subscripted slice false (.str x t) (.int (i : Int) u) = operate [.str x t, .int (i : Int) u] (getItem (.str x t) (.int (i : Int) u)) := by with_unfolding_all rfl)
    (ht : ∀ r, letTemporaryGo value (.str x t) r = pure () := by intro _; with_unfolding_all rfl) :
    wpAny (model M w) A (subscriptTail value slice (.str x t) (.int (i : Int) u)) Q E s := by
  refine item_str (fitsSsize_of (N := 9223372036854775808) (by omega) (by omega) (Int.le_refl _)) (by omega) (by omega) (fun _ => ?_) hs ht
  have e : Txt.item x (i : Int) = ⟨#[x.cps.toList.getD i 0]⟩ := by
    unfold Txt.item Txt.charAt seqIndex?
    have h1 : ¬ ((i : Int) < 0) := by omega
    have h2 : (decide ((0 : Int) ≤ (i : Int)) && decide ((i : Int) < (x.length : Int))) = true := by simp; omega
    simp only [if_neg h1, h2, if_true, Option.bind_some, Int.toNat_natCast]
    congr 2
    simp [List.getD_eq_getElem?_getD]
  rw [e]; exact h
/-- the places of the signs that are kept -/
def kpt (ns : List Int) (l : List Nat) : List Nat := (List.range l.length).filter fun i => !((whs ns).any fun x => x == ((l.getD i 0 : Nat) : Int))
local macro_rules | `(tactic| walk_at "subscriptTail Name Name str int") => `(tactic| (k_here; k_dflt (refine item_nat (by assumption) (by assumption) ?_)))

theorem ints_head {ks : List Value} {a : Nat} {r : List Nat} (h : IntsAre ks ((a :: r).map fun i : Nat => (i : Int))) : ∃ t, ks[((0 : Int)).toNat]? = some (Value.int (a : Int) t) := by
  cases h with | cons n t _ => exact ⟨t, rfl⟩
theorem ints_last {ks : List Value} {l : List Nat} (h : IntsAre ks (l.map fun i : Nat => (i : Int))) (hl : l ≠ []) : ∃ j, seqIndex? (-1) ks.length = some j ∧ ∃ t, ks[j]? = some (Value.int ((l.getLastD 0 : Nat) : Int) t) := by
  have hlen := h.length
  rw [List.length_map] at hlen
  have h0 : 0 < l.length := List.length_pos_iff.mpr hl
  refine ⟨l.length - 1, ?_, ?_⟩
  · unfold seqIndex?
    have e : ((-1 : Int) < 0) := by decide
    simp only [e, if_true, hlen]
    have h2 : (decide ((0 : Int) ≤ -1 + (l.length : Int)) && decide (-1 + (l.length : Int) < (l.length : Int))) = true := by simp; omega
    rw [if_pos h2]
    congr 1
    omega
  · refine h.get (l.length - 1) _ ?_
    rw [List.getElem?_map, List.getElem?_eq_getElem (by omega)]
    simp [List.getLastD_eq_getLast?, List.getLast?_eq_getElem?]
    rw [List.getElem?_eq_getElem (by omega)]
    rfl
theorem kpt_lt {ns : List Int} {l : List Nat} {i : Nat} (h : i ∈ kpt ns l) : i < l.length := by
  unfold kpt at h
  exact List.mem_range.mp (List.mem_filter.mp h).1
theorem last_mem (a : Nat) (r : List Nat) : (a :: r).getLastD 0 ∈ a :: r := by
  rw [List.getLastD_eq_getLast?, List.getLast?_eq_some_getLast (by simp)]
  exact List.getLast_mem _
theorem pair_le {l : List Nat} (h : l.Pairwise (· < ·)) {a : Nat} {r : List Nat} (e : l = a :: r) : a ≤ (a :: r).getLastD 0 := by
  subst e
  have hm := last_mem a r
  rcases List.mem_cons.mp hm with h1 | h1
  · exact Nat.le_of_eq h1.symm
  · exact Nat.le_of_lt (List.rel_of_pairwise_cons h h1)
theorem kpt_pair (ns : List Int) (l : List Nat) : (kpt ns l).Pairwise (· < ·) := List.Pairwise.filter _ List.pairwise_lt_range
/-- the text without the white signs at both its ends -/
def bod (ns : List Int) (l : List Nat) : List Nat := (l.drop ((kpt ns l).headD 0)).take ((kpt ns l).getLastD 0 + 1 - (kpt ns l).headD 0)
/-- the places of its line ends -/
def eds (ns : List Int) (l : List Nat) : List Nat := (List.range l.length).filter fun i => decide (((l.getD i 0 : Nat) : Int) = 10) && (whs ns).any fun x => x == 10
/-- the two halves -/
def hal (ns : List Int) (l : List Nat) : List Nat × List Nat :=
  if kpt ns l = [] then ([], []) else
  match eds ns (bod ns l) with
  | [] => (bod ns l, [])
  | [_] => ([], bod ns l)
  | e0 :: e1 :: _ => if (((bod ns l).drop e0).take (e1 - e0)).filter (fun c : Nat => !((whs ns).any fun x => x == (c : Int))) = [] then ((bod ns l).take e0, (bod ns l).drop (e1 + 1)) else ([], bod ns l)
local macro_rules | `(tactic| walk_at "subscriptTail Name Slice str ref") => `(tactic| (k_here; refine Halt.out ?_))
local macro_rules | `(tactic| walk_at "eval ListComp") => `(tactic| (k_here; refine Halt.out ?_))
local macro_rules | `(tactic| walk_at "compareOp Eq ref ref") => `(tactic| (k_here; refine Halt.out ?_))
local macro_rules | `(tactic| walk_at "subscriptTail Name Constant ref int") => `(tactic| (k_here; k_dflt (refine' item_litK ?a ?b ?c ?d ?_ ?e; (case a => exact News.isList (by k_asm) (by k_mem)); (case b => decide); (case c => decide); (case d => assumption); (case e => with_unfolding_all rfl))))
local macro_rules | `(tactic| walk_at "subscriptTail Name UnaryOp ref int") => `(tactic| (k_here; k_dflt (refine' kde_neg ?a ?b ?c ?d ?e ?_ ?f; (case a => exact News.isList (by k_asm) (by k_mem)); (case b => decide); (case c => decide); (case d => assumption); (case e => assumption); (case f => with_unfolding_all rfl))))

theorem empty_S : Str.ofString "" = S [] := by decide

theorem seg_at {l : List Nat} {i c : Nat} (h : (S l).cps[i]? = some c) : l.getD i 0 = c := by
  have h' : l[i]? = some c := by simpa [S] using h
  rw [List.getD_eq_getElem?_getD, h']
  rfl

section
variable {w : World} {loose : List Str} {mean : ExcName → Option Value} {mg mb : Str → Option Value} {news : List (Addr × Obj)}
  {dp un : Nat} {gd : Option (List Code)} {cn : Str} {cs : Scope} {a : Addr} {ccd : Value} {cl : List (Str × Addr)} {outer : List Env} {A₀ : Around} {base h₀ : Heap} {L : Addr} {m : Str → Option Value} {s : Shared} {Q E : Value → Shared → Prop}

set_option pp.deepTerms false in
set_option pp.deepTerms.threshold 12 in
set_option maxRecDepth 100000 in
set_option maxHeartbeats 4000000 in
theorem c_halves {x : Str} {ns : List Int} {vs : List Value} {l : Addr} {k : Nat} {tx : Tok} (hx : x.length ≤ 64) (ha : x.cps.all (· < 128) = true)
  (hl : (l, ({ cls := .type "list", data := .seq vs.toArray k } : Obj)) ∈ news) (hn : IntsAre vs ns)
  (B : Below A₀ base outer h₀) (F : Fr h₀ L s.heap m) (X : (hd.heap_39 w.params).In h₀) (N : News h₀ L s.heap news) (T : Top hd.view_39 loose mean mg mb h₀) (hk : cs.kind = .function)
  (hroom : dp + 1 < recursionLimit) (hu : un + 100 < cLine)
  (hret : ∀ (D : Addr) (t u : Tok) (c : Nat) (h' : Heap) (tk' : Nat), Fr h₀ L h' m → News h₀ L h' ((D, ({ cls := .type "tuple", data := .seq #[.str (S (hal ns x.cps.toList).1) t, .str (S (hal ns x.cps.toList).2) u] c } : Obj)) :: news) → (∀ p ∈ news, p.1 < D) → Q (.ref D) { s with heap := h', toks := tk' }) :
  wpAny (model PySem.Challenge.rw_mq0056_01.row.prog w) (ktrTop dp un gd cn cs L a ccd cl outer) (call (.ref 73) [.str x tx, .ref l]) Q E s := by
  revert X; k_fill; intro X
  refine wpAny_call ?_
  k_dflt (refine' code_defC (binds := [(Str.ofString "text", .str x tx), (Str.ofString "codes", .ref l)]) ?k1 ?k2 ?k3 ?k4 ?k5 ?kA ?kF ?kK ?k6 ?k7 ?k8 ?k9 ?kB ?kD ?_ ?c2 ?c3 ?c4; (case kA => exact rfl); (case kF => exact rfl); (case kK => assumption); (case k1 => k_asm); (case k2 => k_asm); (case k3 => k_asm); (case k4 => k_asm); (case k5 => k_asm); (case k6 => k_is); (case k7 => k_is); (case k8 => ktr_room); (case k9 => exact BindsTo.of_eq rfl); (case kB => exact rfl); (case kD => decide +kernel); (case c2 => exact rfl); (case c3 => exact rfl); (case c4 => exact rfl); k_whole)
  intro g' L' h' tk' cells' FG' F' N' Y' B' X' T' l1
  obtain ⟨o1, o2, o3, o4, hE, d1, d2, d3, d4⟩ := CellsAre.four Y'
  subst hE
  clear Y'
  replace F' : Fr g' L' h' (fun _ => none) := by with_unfolding_all exact F'
  replace d1 : o1.data = .cell none := by with_unfolding_all exact d1
  replace d2 : o2.data = .cell none := by with_unfolding_all exact d2
  replace d3 : o3.data = .cell (some (.ref l)) := by with_unfolding_all exact d3
  replace d4 : o4.data = .cell (some (.str x tx)) := by with_unfolding_all exact d4
  (try simp only [List.cons_append, List.nil_append] at N')
  (try dsimp only)
  (try k_lift B')
  (try k_fold)
  k_steps
  k_dflt (refine' LCt.ListComp_T (F₀ := by k_asm) ?a ?b ?c ?d ?e ?_ ?g; (case a => with_unfolding_all rfl); (case b => decide); (case c => rfl); (case d => decide); (case e => rfl); (case g => intro _; rfl))
  k_steps
  refine LCt.CompSrcT.ledger rfl (by k_asm) (by k_asm) (List.Mem.head _) (Nat.le_of_ble_eq_true rfl) ?_
  intro g2
  refine rest_T (fun i => !(ns.any fun x => x == whT.getD i 0)) (fun i y => ∃ t, y = .int (whT.getD i 0) t) (.inr ⟨_, List.Mem.head _, rfl, _, rfl⟩) ?_ ?_
  · intro i v I oI C oC D m₂ ys h tk E' hi hv hC hx' F N off ne
    obtain ⟨k, t, rfl, hk⟩ := IntsAre.at (ns := whT) (.cons _ _ (.cons _ _ (.cons _ _ (.cons _ _ (.cons _ _ (.cons _ _ (.cons _ _ (.cons _ _ (.cons _ _ (.cons _ _ .nil)))))))))) i v (by simpa using hv)
    have hkd : whT.getD i 0 = k := by rw [List.getD_eq_getElem?_getD, hk]; rfl
    (try k_fold)
    k_steps
    refine TestEnd.intro (by assumption) (by assumption) (by rw [hkd]) ?_
    intro _
    (try k_fold)
    k_steps
    refine TurnEnd.intro (by assumption) (by assumption) ⟨_, by rw [hkd]⟩
  intro ys hys
  have hW : IntsAre ys (whs ns) := by
    have h0 := hys.ints
    unfold whs
    rw [← range_filter_getD 0 _ whT]
    exact h0
  clear hys
  k_steps
  refine LCt.CompSrcT.range rfl (by k_asm) (by k_asm) (by assumption) (range_small hx) (range_size x.length) (sl64 hx) ?_
  intro g3
  refine rest_T (fun i => !((whs ns).any fun y => y == ((x.cps.toList.getD i 0 : Nat) : Int))) (fun i y => ∃ t, y = .int (i : Int) t) trivial ?_ ?_
  · intro i v I oI C oC D m₂ ys h tk E' hi hv hC hx' F N off ne
    obtain ⟨t, rfl⟩ := hv
    rw [Int.zero_add] at hx'
    (try k_fold)
    k_steps
    refine TestEnd.intro (by assumption) (by assumption) rfl ?_
    intro _
    (try k_fold)
    k_steps
    exact TurnEnd.intro (by assumption) (by assumption) ⟨_, rfl⟩
  intro ks hys
  have hK : IntsAre ks ((kpt ns x.cps.toList).map fun i : Nat => (i : Int)) := by
    have h0 := hys.ints (f := fun i : Nat => (i : Int))
    unfold kpt
    rw [show x.cps.toList.length = x.length by simp [Str.length]]
    exact h0
  clear hys
  k_steps
  refine eq_intsK (News.isList (by k_asm) (.tail _ (.head _))) hK (News.isList (by k_asm) (.head _)) .nil ?_ ?_
  · simp only [units_deeper]; omega
  cases hk0 : kpt ns x.cps.toList with
  | nil =>
    rw [show decide (List.map (fun i : Nat => (i : Int)) [] = []) = true from rfl]
    k_steps
    have e : hal ns x.cps.toList = ([], []) := by unfold hal; rw [if_pos hk0]
    rw [e, ← empty_S] at hret
    exact hret _ _ _ _ _ _ (by assumption) (cb_drop (by assumption) (by exact List.forall_mem_cons.mpr ⟨List.Mem.head _, fun p hp => by repeat (first | exact hp | refine List.mem_cons_of_mem _ ?_)⟩)) (fun p hp => Nat.lt_trans (l1 p hp) (by omega))
  | cons a0 r0 =>
    rw [show decide (List.map (fun i : Nat => (i : Int)) (a0 :: r0) = []) = false from rfl]
    rw [hk0] at hK
    obtain ⟨t0, hk1⟩ := ints_head hK
    obtain ⟨j1, hk2, t1, hk3⟩ := ints_last hK (by simp)
    k_steps
    have hxl : x.cps.toList.length = x.length := by simp [Str.length]
    have hb0 : a0 ≤ (a0 :: r0).getLastD 0 := pair_le (kpt_pair ns x.cps.toList) hk0
    have hb1 : (a0 :: r0).getLastD 0 < x.length := by
      have h := last_mem a0 r0
      rw [← hk0] at h
      have h2 := kpt_lt h
      rw [hk0] at h2
      omega
    have hbod : Txt.slice x (some (a0 : Int)) (some (((a0 :: r0).getLastD 0 : Nat) + 1 : Int)) = S (bod ns x.cps.toList) := by
      have h := slice_ss x (a := a0) (b := (a0 :: r0).getLastD 0 + 1) (by omega) (by omega)
      unfold bod
      rw [hk0]
      exact h
    refine slice_strN_ss (s := ⟨_, _, _, _, _⟩) (by k_asm) (by k_asm) ?_ (hsz := sl64 hx)
    intro h5 t5 k5 F5 N5
    rw [hbod]
    have hbl : (S (bod ns x.cps.toList)).length ≤ 64 := by rw [← hbod]; exact Nat.le_trans (Txt.slice_le x _ _) hx
    have hal0 : hal ns x.cps.toList = match eds ns (bod ns x.cps.toList) with
        | [] => (bod ns x.cps.toList, [])
        | [_] => ([], bod ns x.cps.toList)
        | e0 :: e1 :: _ => if (((bod ns x.cps.toList).drop e0).take (e1 - e0)).filter (fun c : Nat => !((whs ns).any fun x => x == (c : Int))) = [] then ((bod ns x.cps.toList).take e0, (bod ns x.cps.toList).drop (e1 + 1)) else ([], bod ns x.cps.toList) := by
      unfold hal
      rw [if_neg (by rw [hk0]; simp)]
    have hba : (S (bod ns x.cps.toList)).cps.all (· < 128) = true := by
      rw [← Array.all_toList, S_toList, List.all_eq_true]
      intro c hc
      have hc' : c ∈ x.cps.toList := List.mem_of_mem_drop (List.mem_of_mem_take hc)
      rw [← Array.all_toList, List.all_eq_true] at ha
      exact ha c hc'
    clear hbod hb0 hb1 hk1 hk2 hk3 hK
    generalize bod ns x.cps.toList = b at hbl hal0 hba
    k_steps
    refine LCt.CompSrcT.range rfl (by k_asm) (by k_asm) (by assumption) (range_small hbl) (range_size (S b).length) (sl64 hbl) ?_
    intro g6
    refine rest_T (fun i => decide (((b.getD i 0 : Nat) : Int) = 10) && (whs ns).any fun x => x == 10) (fun i y => ∃ t, y = .int (i : Int) t) trivial ?_ ?_
    · intro i v I oI C oC D m₂ ys h tk E' hi hv hC hx' F N off ne
      obtain ⟨t, rfl⟩ := hv
      rw [Int.zero_add] at hx'
      (try k_fold)
      k_steps
      · refine TestEnd.intro (by assumption) (by assumption) (by rw [decide_eq_true (by assumption), Bool.true_and]; exact Eq.symm (by assumption)) ?_
        intro _
        (try k_fold)
        k_steps
        exact TurnEnd.intro (by assumption) (by assumption) ⟨_, rfl⟩
      · refine TestEnd.intro (by assumption) (by assumption) (by rw [decide_eq_true (by assumption), Bool.true_and]; exact Eq.symm (by assumption)) ?_
        intro hf; exact absurd hf (by decide)
      · refine TestEnd.intro (by assumption) (by assumption) (by rw [decide_eq_false (by assumption), Bool.false_and]) ?_
        intro hf; exact absurd hf (by decide)
    intro es hys
    have hE : IntsAre es ((eds ns b).map fun i : Nat => (i : Int)) := by
      have h0 := hys.ints (f := fun i : Nat => (i : Int))
      unfold eds
      rw [S_length] at h0
      exact h0
    clear hys
    k_steps
    refine eq_intsK (News.isList (by k_asm) (.tail _ (.head _))) hE (News.isList (by k_asm) (.head _)) .nil ?_ ?_
    · simp only [units_deeper]; omega
    cases he : eds ns b with
    | nil =>
      rw [show decide (List.map (fun i : Nat => (i : Int)) [] = []) = true from rfl]
      k_steps
      rw [he] at hal0
      rw [hal0, ← empty_S] at hret
      exact hret _ _ _ _ _ _ (by assumption) (cb_drop (by assumption) (by exact List.forall_mem_cons.mpr ⟨List.Mem.head _, fun p hp => by repeat (first | exact hp | refine List.mem_cons_of_mem _ ?_)⟩)) (fun p hp => Nat.lt_trans (l1 p hp) (by omega))
    | cons e0 er =>
      rw [show decide (List.map (fun i : Nat => (i : Int)) (e0 :: er) = []) = false from rfl]
      have helen := hE.length
      rw [he] at hE
      rw [List.length_map, he] at helen
      have hes : es.length ≤ 64 := by
        rw [helen, ← he]
        refine Nat.le_trans (List.length_filter_le _ _) ?_
        rw [List.length_range, ← S_length]
        exact hbl
      cases er with
      | nil =>
        have helen : es.length = 1 := helen
        k_steps
        rw [he] at hal0
        rw [hal0, ← empty_S] at hret
        exact hret _ _ _ _ _ _ (by assumption) (cb_drop (by assumption) (by exact List.forall_mem_cons.mpr ⟨List.Mem.head _, fun p hp => by repeat (first | exact hp | refine List.mem_cons_of_mem _ ?_)⟩)) (fun p hp => Nat.lt_trans (l1 p hp) (by omega))
      | cons e1 er =>
        have helen : es.length = er.length + 2 := helen
        have hpw : (e0 :: e1 :: er).Pairwise (· < ·) := he ▸ List.Pairwise.filter _ List.pairwise_lt_range
        have h01 : e0 < e1 := List.rel_of_pairwise_cons hpw (by simp)
        have h1b : e1 < b.length := by
          have hm : e1 ∈ eds ns b := by rw [he]; simp
          exact List.mem_range.mp (List.mem_filter.mp hm).1
        obtain ⟨t0, hk1⟩ := ints_head hE
        obtain ⟨t1, hk2⟩ : ∃ t, es[((1 : Int)).toNat]? = some (Value.int (e1 : Int) t) := by
          cases hE with | cons n t r => cases r with | cons n' t' _ => exact ⟨t', rfl⟩
        have hsl : Txt.slice (S b) (some (e0 : Int)) (some (e1 : Int)) = S ((b.drop e0).take (e1 - e0)) := slice_ss (S b) (by omega) (by rw [S_length]; omega)
        have hsl2 : (S ((b.drop e0).take (e1 - e0))).length ≤ 64 := by rw [← hsl]; exact Nat.le_trans (Txt.slice_le _ _ _) hbl
        have hsa : (S ((b.drop e0).take (e1 - e0))).cps.all (· < 128) = true := by
          rw [← Array.all_toList, S_toList, List.all_eq_true] at hba ⊢
          exact fun c hc => hba c (List.mem_of_mem_drop (List.mem_of_mem_take hc))
        k_steps
        k_dflt (refine' ListComp_ST (by k_asm) ?a ?b ?c ?d ?e ?_ ?g; (case a => with_unfolding_all rfl); (case b => decide); (case c => rfl); (case d => decide); (case e => rfl); (case g => intro _; rfl))
        k_steps
        refine slice_strN_ss (s := ⟨_, _, _, _, _⟩) (by k_asm) (by k_asm) ?_ (hsz := sl64 hbl)
        intro h7 t7 k7 F7 N7
        rw [hsl]
        refine ⟨S ((b.drop e0).take (e1 - e0)), t7, _, rfl, rfl, hsa, sl64 hsl2, F7, N7, fun g8 => ?_⟩
        refine rest_T (fun i => !((whs ns).any fun y => y == ((((b.drop e0).take (e1 - e0)).getD i 0 : Nat) : Int))) (fun i y => ∃ t, y = .str ⟨#[((b.drop e0).take (e1 - e0)).getD i 0]⟩ t) trivial ?_ ?_
        · intro i v I oI C oC D m₂ ys h tk E' hi hv hC hx' F N off ne
          obtain ⟨c, u, hc, rfl⟩ := hv
          (try k_fold)
          k_steps
          refine TestEnd.intro (by assumption) (by assumption) (by rw [seg_at hc]) ?_
          intro _
          (try k_fold)
          k_steps
          exact TurnEnd.intro (by assumption) (by assumption) ⟨_, by rw [seg_at hc]⟩
        intro sg hys
        have hG : StrsAre sg ((((b.drop e0).take (e1 - e0)).filter (fun c : Nat => !((whs ns).any fun x => x == (c : Int)))).map fun c => (⟨#[c]⟩ : Str)) := by
          have h0 := hys.strs (f := fun i : Nat => (⟨#[((b.drop e0).take (e1 - e0)).getD i 0]⟩ : Str))
          rw [← range_filter_getD 0, List.map_map]
          have e : (S ((b.drop e0).take (e1 - e0))).cps.size = ((b.drop e0).take (e1 - e0)).length := by simp [S]
          rw [e] at h0
          exact h0
        have hG2 : ∀ y ∈ ((((b.drop e0).take (e1 - e0)).filter (fun c : Nat => !((whs ns).any fun x => x == (c : Int)))).map fun c => (⟨#[c]⟩ : Str)), y.cps.all (· < 128) = true := by
          intro y hy
          obtain ⟨c, hc, rfl⟩ := List.mem_map.mp hy
          rw [← Array.all_toList, S_toList, List.all_eq_true] at hsa
          have := hsa c (List.mem_filter.mp hc).1
          simpa using this
        clear hys
        k_steps
        refine eq_nil_strs (News.isList (by k_asm) (.tail _ (.head _))) hG hG2 (News.isList (by k_asm) (.head _)) ?_ ?_
        · simp only [units_deeper]; omega
        by_cases hem : ((b.drop e0).take (e1 - e0)).filter (fun c : Nat => !((whs ns).any fun x => x == (c : Int))) = []
        · rw [decide_eq_true (by rw [hem]; rfl)]
          k_steps
          refine slice_strN_ns (s := ⟨_, _, _, _, _⟩) (by k_asm) (by k_asm) ?_ (hsz := sl64 hbl)
          intro h8 t8 k8 F8 N8
          rw [show Txt.slice (S b) none (some (e0 : Int)) = S (b.take e0) from slice_ns (S b) (by rw [S_length]; omega)]
          k_steps
          refine slice_strN_sn (s := ⟨_, _, _, _, _⟩) (by k_asm) (by k_asm) ?_ (hsz := sl64 hbl)
          intro h9 t9 k9 F9 N9
          rw [show Txt.slice (S b) (some ((e1 : Int) + 1)) none = S (b.drop (e1 + 1)) from slice_sn (S b) (a := e1 + 1) (by rw [S_length]; omega)]
          k_steps
          rw [he] at hal0
          dsimp only at hal0
          rw [if_pos hem] at hal0
          rw [hal0] at hret
          exact hret _ _ _ _ _ _ (by assumption) (cb_drop (by assumption) (by exact List.forall_mem_cons.mpr ⟨List.Mem.head _, fun p hp => by repeat (first | exact hp | refine List.mem_cons_of_mem _ ?_)⟩)) (fun p hp => Nat.lt_trans (l1 p hp) (by omega))
        · rw [decide_eq_false (by intro h; exact hem (List.map_eq_nil_iff.mp h))]
          k_steps
          rw [he] at hal0
          dsimp only at hal0
          rw [if_neg hem] at hal0
          rw [hal0, ← empty_S] at hret
          exact hret _ _ _ _ _ _ (by assumption) (cb_drop (by assumption) (by exact List.forall_mem_cons.mpr ⟨List.Mem.head _, fun p hp => by repeat (first | exact hp | refine List.mem_cons_of_mem _ ?_)⟩)) (fun p hp => Nat.lt_trans (l1 p hp) (by omega))
end
end Mine
end

section
open PySem PySem.W PyProof.Rows PySem.Calls
namespace Mine
theorem top_off_C5 : True := by
  w_top off
  trivial
/-- what splitdoc gives -/
def sd (l : List Nat) : List Nat × List Nat :=
  match cutBy (· == 10) (trim Unicode.isSpace l) with
  | [] => ([], [])
  | [p] => (p, [])
  | p :: q :: r => if rtrim Unicode.isSpace q = [] then (p, glue [10] r) else ([], glue [10] (p :: q :: r))
theorem strsAre_vals : ∀ (ls : List (Str × Tok)), StrsAre (strValues ls) (ls.map (·.1))
  | [] => .nil
  | p :: r => .cons p.1 p.2 (strsAre_vals r)
theorem newline_S : Str.ofString "\n" = S [10] := by decide
theorem empty_S5 : Str.ofString "" = S [] := by decide
theorem trim_len (p : Nat → Bool) (l : List Nat) : (trim p l).length ≤ l.length := by
  unfold trim rtrim
  rw [List.length_reverse]
  refine Nat.le_trans (List.dropWhile_sublist _).length_le ?_
  rw [List.length_reverse]
  exact (List.dropWhile_sublist _).length_le
theorem cut_len (q : Nat → Bool) : ∀ l : List Nat, (cutBy q l).length ≤ l.length + 1
  | [] => by simp [cutBy]
  | c :: r => by
    have ih := cut_len q r
    unfold cutBy
    split
    · simpa using ih
    · split
      · simp
      · rename_i p ps h
        rw [h] at ih
        simp only [List.length_cons] at ih ⊢
        omega
theorem glue_len (sep : List Nat) : ∀ ps : List (List Nat), (ps.map List.length).sum + ps.length * sep.length ≤ (glue sep ps).length + sep.length
  | [] => by simp [glue]
  | [p] => by simp [glue]
  | p :: q :: r => by
    have ih := glue_len sep (q :: r)
    rw [glue_cons _ _ (by simp)]
    simp only [List.map_cons, List.sum_cons, List.length_cons, List.length_append, Nat.succ_mul] at ih ⊢
    omega
theorem sum_S (ps : List (List Nat)) : ((ps.map S).map (·.length)).sum = (ps.map List.length).sum := by
  rw [List.map_map]
  exact congrArg List.sum (List.map_congr_left fun p _ => S_length p)
theorem StrsAre.len : ∀ {vs : List Value} {ys : List Str}, StrsAre vs ys → vs.length = ys.length
  | _, _, .nil => rfl
  | _, _, .cons _ _ r => congrArg (· + 1) (StrsAre.len r)
theorem allLt_mem {d : Nat} : ∀ {l : List (Addr × Obj)}, AllLt d l → ∀ p ∈ l, p.1 < d
  | [], _, _, h => nomatch h
  | _ :: _, x, p, h => by
    rcases List.mem_cons.mp h with rfl | h
    · exact x.1
    · exact allLt_mem x.2 p h
/-- the walk waits here -/
def Wait (P : Prop) : Prop := P
theorem Wait.out {P : Prop} (h : Wait P) : P := h
local macro_rules | `(tactic| k_mem) => `(tactic| assumption)
local macro_rules | `(tactic| walk_at "call builtin:str.split") => `(tactic| (k_here; refine Wait.out ?_))
local macro_rules | `(tactic| walk_at "call builtin:str.rstrip") => `(tactic| (k_here; refine Wait.out ?_))
local macro_rules | `(tactic| walk_at "call builtin:str.join") => `(tactic| (k_here; refine Wait.out ?_))
local macro_rules | `(tactic| walk_at "subscriptTail Name Slice ref ref") => `(tactic| (k_here; refine Wait.out ?_))
local macro_rules | `(tactic| walk_at "call builtin:len") => `(tactic| (k_here; refine Wait.out ?_))
local macro_rules | `(tactic| walk_at "subscriptTail Name Constant ref int") => `(tactic| (k_here; k_dflt (refine' item_litK ?a ?b ?c ?d ?_ ?e; (case a => exact News.isList (by k_asm) (by k_mem)); (case b => decide); (case c => decide); (case d => rfl); (case e => with_unfolding_all rfl))))

section
variable {w : World} {loose : List Str} {mean : ExcName → Option Value} {mg mb : Str → Option Value} {news : List (Addr × Obj)}
  {dp un : Nat} {gd : Option (List Code)} {cn : Str} {cs : Scope} {a : Addr} {ccd : Value} {cl : List (Str × Addr)} {outer : List Env} {A₀ : Around} {base h₀ : Heap} {L : Addr} {m : Str → Option Value} {s : Shared} {Q E : Value → Shared → Prop}

set_option pp.deepTerms false in
set_option pp.deepTerms.threshold 10 in
set_option maxRecDepth 100000 in
set_option maxHeartbeats 4000000 in
theorem c_splitdoc {l : List Nat} {tx : Tok} (hx : l.length ≤ 64)
  (B : Below A₀ base outer h₀) (F : Fr h₀ L s.heap m) (X : (hd.heap_39 w.params).In h₀) (N : News h₀ L s.heap news) (T : Top hd.view_39 loose mean mg mb h₀) (hk : cs.kind = .function)
  (hroom : dp + 1 < recursionLimit) (hu : un + 100 < cLine)
  (hret : ∀ (D : Addr) (t u : Tok) (c : Nat) (h' : Heap) (tk' : Nat), Fr h₀ L h' m → News h₀ L h' ((D, ({ cls := .type "tuple", data := .seq #[.str (S (sd l).1) t, .str (S (sd l).2) u] c } : Obj)) :: news) → (∀ p ∈ news, p.1 < D) → Q (.ref D) { s with heap := h', toks := tk' }) :
  wpAny (model PySem.Challenge.rw_mq0056_01.row.prog w) (ktrTop dp un gd cn cs L a ccd cl outer) (call (.ref 21) [.str (S l) tx]) Q E s := by
  revert X; k_fill; intro X
  refine wpAny_call ?_
  k_dflt (refine' code_def (binds := [(Str.ofString "doc", .str (S l) tx)]) ?k1 ?k2 ?k3 ?k4 ?k5 ?kA ?kF ?kK ?k6 ?k7 ?k8 ?k9 ?kB ?_ ?c2 ?c3 ?c4 ?c5; (case kA => exact rfl); (case kF => exact rfl); (case kK => assumption); (case k1 => k_asm); (case k2 => k_asm); (case k3 => k_asm); (case k4 => k_asm); (case k5 => k_asm); (case k6 => k_is); (case k7 => k_is); (case k8 => ktr_room); (case k9 => exact BindsTo.of_eq rfl); (case c5 => decide); (case kB => exact locs rfl); (case c2 => exact rfl); (case c3 => exact rfl); (case c4 => exact rfl); k_whole)
  intro g' L' h' FG' F' N' B' X' T'
  have hL := S_length l
  have hSl : (S l).length ≤ sizeLine := by rw [hL, sizeLine_eq]; omega
  (try dsimp only)
  (try k_lift B')
  (try k_fold)
  k_steps
  rw [txt_strip_S, newline_S]
  have htl := trim_len Unicode.isSpace l
  refine splitN1 (by k_asm) (by k_asm) (by decide) ?_ (hsz := by rw [S_length, sizeLine_eq]; omega)
  intro ls h1 k1 hls F1 N1
  have hS := strsAre_vals ls
  rw [hls, txt_split_S] at hS
  have hcl := cut_len (· == 10) (trim Unicode.isSpace l)
  have hgl := glue_cutBy 10 (trim Unicode.isSpace l)
  have hgs := glue_len [10] (cutBy (· == 10) (trim Unicode.isSpace l))
  rw [hgl] at hgs
  generalize strValues ls = vs at hS N1
  clear hls
  unfold sd at hret
  cases hc : cutBy (· == 10) (trim Unicode.isSpace l) with
  | nil => exact absurd hc (cutBy_ne _ _)
  | cons p ps =>
    rw [hc] at hS hcl hgl hgs hret
    cases hS with
    | cons y t hS =>
      cases ps with
      | nil =>
        cases hS
        dsimp only at hret
        k_steps
        refine kun_lenL (News.isList (by k_asm) (.head _)) (k := 1) rfl (by decide) ?_
        k_steps
        rw [← empty_S5] at hret
        refine hret _ _ _ _ _ _ (by assumption) (cb_drop (by assumption) (by exact List.forall_mem_cons.mpr ⟨List.Mem.head _, fun p hp => by repeat (first | exact hp | refine List.mem_cons_of_mem _ ?_)⟩)) (allLt_mem ?_)
        first | exact And.right (by assumption) | exact And.right (And.right (by assumption)) | exact And.right (And.right (And.right (by assumption))) | exact And.right (And.right (And.right (And.right (by assumption))))
      | cons q r =>
        cases hS with
        | cons y' t' hS =>
          rename_i vr
          have hvl := StrsAre.len hS
          rw [List.length_map] at hvl
          simp only [List.length_cons] at hcl
          have hv2 : (((.str (S p) t :: .str (S q) t' :: vr : List Value).toArray.size : Nat) : Int) = (vr.length : Int) + 2 := by simp; omega
          k_steps
          refine kun_lenL (News.isList (by k_asm) (.head _)) hv2 (by omega) ?_
          k_steps
          · exfalso; omega
          refine kun_lenL (News.isList (by k_asm) (.head _)) hv2 (by omega) ?_
          k_steps
          have hqs : (S q).length ≤ 64 := by
            rw [S_length]
            simp only [List.map_cons, List.sum_cons] at hgs
            simp only [List.length_cons, List.length_nil] at hgs
            omega
          refine SC.rstrip ?_ (hsz := by rw [sizeLine_eq]; omega)
          intro t9 k9
          rw [txt_rstrip_S]
          dsimp only at hret
          by_cases hq : rtrim Unicode.isSpace q = []
          · rw [hq]
            rw [if_pos hq] at hret
            k_steps
            refine kms_slice_lit (s := ⟨_, _, _, _, _⟩) (zs := vr) (by k_asm) (by k_asm) (News.isList (by k_asm) (.head _)) (IsPart.int _ _) IsPart.none ?_ ?_ (by with_unfolding_all rfl) (by intro _; with_unfolding_all rfl) ?_
            · unfold kms_pick kms_lo kms_hi
              simp
            · intro D8 h8 F8 N8 l8
              k_steps
              refine join_list (News.isList (by k_asm) (.head _)) hS ?_ ?_
              · rw [sum_S, List.length_map, S_length]
                simp only [List.map_cons, List.sum_cons, List.length_cons, List.length_nil] at hgs ⊢
                omega
              · intro t7 k7
                rw [txt_join_S]
                k_steps
                refine hret _ _ _ _ _ _ (by assumption) (cb_drop (by assumption) (by exact List.forall_mem_cons.mpr ⟨List.Mem.head _, fun p hp => by repeat (first | exact hp | refine List.mem_cons_of_mem _ ?_)⟩)) (allLt_mem ?_)
                first | exact And.right (by assumption) | exact And.right (And.right (by assumption)) | exact And.right (And.right (And.right (by assumption))) | exact And.right (And.right (And.right (And.right (by assumption))))
            · have : ((.str (S p) t :: .str (S q) t' :: vr : List Value).toArray.size) = vr.length + 2 := by simp
              rw [this, sizeLine_eq]
              omega
          · have hq1 : (((S (rtrim Unicode.isSpace q)).length : Int) != 0) = true := by
              rw [S_length, bne_iff_ne]
              have := List.length_pos_iff.mpr hq
              omega
            have hq2 : (rtrim Unicode.isSpace q).length ≤ 64 := by
              have := take_rtrim Unicode.isSpace q
              rw [← this, List.length_take]
              rw [S_length] at hqs
              omega
            rw [if_neg hq] at hret
            k_steps
            refine P.truthy_str (by rw [S_length]; omega) ?_
            rw [hq1]
            k_steps
            refine join_list (ys := (p :: q :: r).map S) (News.isList (by k_asm) (.head _)) (.cons _ _ (.cons _ _ hS)) ?_ ?_
            · rw [sum_S, List.length_map, S_length]
              simp only [List.map_cons, List.sum_cons, List.length_cons, List.length_nil] at hgs ⊢
              omega
            · intro t7 k7
              rw [txt_join_S]
              k_steps
              rw [← empty_S5] at hret
              refine hret _ _ _ _ _ _ (by assumption) (cb_drop (by assumption) (by exact List.forall_mem_cons.mpr ⟨List.Mem.head _, fun p hp => by repeat (first | exact hp | refine List.mem_cons_of_mem _ ?_)⟩)) (allLt_mem ?_)
              first | exact And.right (by assumption) | exact And.right (And.right (by assumption)) | exact And.right (And.right (And.right (by assumption))) | exact And.right (And.right (And.right (And.right (by assumption))))
end
end Mine
end

section
open PySem PySem.W PyProof.Rows PySem.Calls
namespace Mine
theorem top_off_C6 : True := by
  w_top off
  trivial
theorem bind_rest {fd : FuncData} {a1 a2 : Arg} (hp : fd.params = { posonlyargs := [], args := [a1], vararg := some a2, kwonlyargs := [], kw_defaults := [], kwarg := none, defaults := [] }) (hd : fd.defaults = .none) (v : Value) (vs : List Value) :
    bindArgs fd ⟨v :: vs, []⟩ = (newTuple vs >>= fun t => pure [(a1.arg, v), (a2.arg, t)]) := by
  unfold bindArgs
  rw [hp, hd, show seqItems? Value.none = pure none from rfl]
  simp
/-- one control, written -/
def rp1 (c : Nat) (x : List Nat) : List Nat := glue [94, c ^^^ 64] (cutBy (· == c) x)
/-- the controls, one behind the other -/
def rep : List Nat → List Nat → List Nat
  | [], x => x
  | c :: r, x => rep r (rp1 c x)
/-- the pairs of some controls -/
def prs (ps : List Nat) : List Str := ps.flatMap fun c => [S [c], car c]
theorem prs_len (ps : List Nat) : (prs ps).length = 2 * ps.length := by
  unfold prs
  induction ps with
  | nil => rfl
  | cons c r ih => simp only [List.flatMap_cons, List.length_append, List.length_cons, List.length_nil, ih]; omega
theorem car_S (c : Nat) : car c = S [94, c ^^^ 64] := rfl
theorem glue_le (sep : List Nat) : ∀ ps : List (List Nat), (glue sep ps).length ≤ (ps.map List.length).sum + ps.length * sep.length
  | [] => by simp [glue]
  | [p] => by simp [glue]
  | p :: q :: r => by
    have ih := glue_le sep (q :: r)
    rw [glue_cons _ _ (by simp)]
    simp only [List.map_cons, List.sum_cons, List.length_cons, List.length_append, Nat.succ_mul] at ih ⊢
    omega
theorem cut_sum (c : Nat) (x : List Nat) : ((cutBy (· == c) x).map List.length).sum + (cutBy (· == c) x).length ≤ x.length + 1 := by
  have h := glue_len [c] (cutBy (· == c) x)
  rw [glue_cutBy] at h
  simpa using h
theorem rp1_le (c : Nat) (x : List Nat) : (rp1 c x).length ≤ 2 * x.length + 2 := by
  have h := cut_sum c x
  have h2 := glue_le [94, c ^^^ 64] (cutBy (· == c) x)
  unfold rp1
  simp only [List.length_cons, List.length_nil] at h2
  omega
section
variable {prog : Program} {w : World} {A A₀ : Around} {s : Shared} {K : Frag} {L : Addr} {h₀ base : Heap} {m mg mb : Str → Option Value} {news : List (Addr × Obj)} {p : Program} {loose : List Str} {mean : ExcName → Option Value}
/-- a def with one parameter and a starred one, entered -/
theorem enter_rest {env : Env} {outer : List Env} {R : Result → Shared → Prop} {name qual : Str} {params : Arguments} {a1 a2 : Arg} {body : List Stmt} {scope : Scope} {kV doc pm cdv ct oc : Value} {an od : Option Addr} {osl : Array (Option Value)} {f : Addr} {v : Value} {vs : List Value}
    (B : Below A₀ base outer h₀) (F : Fr h₀ L s.heap m) (X₀ : K.In h₀) (N : News h₀ L s.heap news) (T : Top p loose mean mg mb h₀) (hA : A.frames = some (env :: outer)) (hf : env.frame = some L) (hke : env.scope.kind = .function)
    (ho : K.lookup f = some ⟨oc, od, .func (fnOf name qual params body scope .none kV doc pm an cdv ct), osl⟩) (hcd : codeIn K cdv qual = true) (hroom : A.depth < recursionLimit)
    (hp : params = { posonlyargs := [], args := [a1], vararg := some a2, kwonlyargs := [], kw_defaults := [], kwarg := none, defaults := [] }) (hz : vs.length ≤ sizeLine)
    (hl1 : scope.names.lookup a1.arg = some .local) (hl2 : scope.names.lookup a2.arg = some .local)
    (h : ∀ D g L' h₁, (∀ p ∈ news, p.1 < D) → Fr h₀ L g m → Fr g L' h₁ (fun y => [(a2.arg, Value.ref D), (a1.arg, v)].lookup y) → News g L' h₁ ((D, ({ cls := .type "tuple", data := .seq vs.toArray } : Obj)) :: news) → Below A base (env :: outer) g → K.In g → Top p loose mean mg mb g →
      wpAny (model prog w) (A.deeper (envOf qual scope L' f cdv)) (execs body (envOf qual scope L' f cdv))
        (fun fl s' => LeaveK h₀ L m g R (match fl with | .ret v => v | _ => .none) s')
        (fun e s' => wpAny (model prog w) (A.deeper (envOf qual scope L' f cdv)) (leaving (envOf qual scope L' f cdv) e) (fun _ s'' => R (.error e) s'') (fun e' s'' => R (.error e') s'') s')
        { s with heap := h₁, toks := s.toks + 2 })
    (hco : scope.isCoroutine = false) (hgen : scope.isGenerator = false) (hk : scope.kind = .function)
    (hcell : ∀ x ∈ scope.names, x.2 ≠ .cell) : codeAny (model prog w) A (.call (.ref f) ⟨v :: vs, []⟩) R s := by
  refine codeAny_call_function (fd := fnOf name qual params body scope .none kV doc pm an cdv ct) (body := body) hroom ((X₀.keeps F.keep) _ _ ho) rfl hco hgen rfl (codeRec_of (X₀.keeps F.keep) hcd) ?_
  rw [bind_rest (a1 := a1) (a2 := a2) hp rfl]
  refine wpAny_bind (newTuple_N F N (fun h' F' N' => wpAny_pure ?_) hz)
  exact kp_frame (cl := []) (s := { s with heap := h' }) (binds := [(a1.arg, v), (a2.arg, .ref s.heap.objs.size)]) B F' N' T.nolimit hA hf hke
    (fun y hy => by
      rcases List.mem_cons.mp hy with rfl | hy
      · exact hl1
      · rw [List.mem_singleton.mp hy]; exact hl2)
    (fun g L' h₁ FG FL NG BG st => h _ g L' h₁ (fun p hp => Heap.lt_size (N p hp).1) FG FL NG BG (X₀.keeps st) (T.keeps st)) hcell hk
end
/-- the walk waits here -/
def Wait6 (P : Prop) : Prop := P
theorem Wait6.out {P : Prop} (h : Wait6 P) : P := h
local macro_rules | `(tactic| k_mem) => `(tactic| assumption)
-- one more line than the text ahead has: the walker keeps its table of lines by their number
local macro_rules | `(tactic| walk_at "mine nothing") => `(tactic| fail)
local macro_rules | `(tactic| walk_at "call builtin:str.split") => `(tactic| (k_here; refine Wait6.out ?_))
local macro_rules | `(tactic| walk_at "call builtin:str.join") => `(tactic| (k_here; refine Wait6.out ?_))
local macro_rules | `(tactic| walk_at "subscriptTail Name Slice ref ref") => `(tactic| (k_here; refine Wait6.out ?_))
local macro_rules | `(tactic| walk_at "truthy ref") => `(tactic| (k_here; refine Wait6.out ?_))
local macro_rules | `(tactic| walk_at "subscriptTail Name Constant ref int") => `(tactic| (k_here; k_dflt (refine' item_tupleT ?a ?b ?c ?d ?e ?_ ?f; (case a => exact News.isTup (by k_asm) (by k_mem)); (case b => decide); (case c => decide); (case d => assumption); (case e => rfl); (case f => with_unfolding_all rfl))))
local macro_rules | `(tactic| walk_at "exec While") => `(tactic| (k_here; refine Wait6.out ?_))

section
variable {w : World} {loose : List Str} {mean : ExcName → Option Value} {mg mb : Str → Option Value} {news : List (Addr × Obj)}
  {dp un : Nat} {gd : Option (List Code)} {cn : Str} {cs : Scope} {a : Addr} {ccd : Value} {cl : List (Str × Addr)} {outer : List Env} {A₀ : Around} {base h₀ : Heap} {L : Addr} {m : Str → Option Value} {s : Shared} {Q E : Value → Shared → Prop}

set_option pp.deepTerms false in
set_option pp.deepTerms.threshold 10 in
set_option maxRecDepth 100000 in
set_option maxHeartbeats 4000000 in
theorem c_replace {l ps : List Nat} {vs : List Value} {tx : Tok} (hx : l.length ≤ 64) (hp : ps.length ≤ 12) (hv : StrsAre vs (prs ps))
  (B : Below A₀ base outer h₀) (F : Fr h₀ L s.heap m) (X : (hd.heap_39 w.params).In h₀) (N : News h₀ L s.heap news) (T : Top hd.view_39 loose mean mg mb h₀) (hk : cs.kind = .function)
  (hroom : dp + 1 < recursionLimit) (hu : un + 100 < cLine)
  (hret : ∀ (t : Tok) (h' : Heap) (tk' : Nat), Fr h₀ L h' m → News h₀ L h' news → Q (.str (S (rep ps l)) t) { s with heap := h', toks := tk' }) :
  wpAny (model PySem.Challenge.rw_mq0056_01.row.prog w) (ktrTop dp un gd cn cs L a ccd cl outer) (call (.ref 28) (.str (S l) tx :: vs)) Q E s := by
  revert X; k_fill; intro X
  refine wpAny_call ?_
  have hvl := StrsAre.len hv
  have hpl := prs_len ps
  k_dflt (refine' enter_rest ?k1 ?k2 ?k3 ?k4 ?k5 ?kA ?kF ?kK ?k6 ?k7 ?k8 ?k9 ?kz ?l1 ?l2 ?_ ?c2 ?c3 ?c4 ?c5; (case kA => exact rfl); (case kF => exact rfl); (case kK => assumption); (case k1 => k_asm); (case k2 => k_asm); (case k3 => k_asm); (case k4 => k_asm); (case k5 => k_asm); (case k6 => k_is); (case k7 => k_is); (case k8 => ktr_room); (case k9 => exact rfl); (case kz => rw [sizeLine_eq]; omega); (case l1 => exact rfl); (case l2 => exact rfl); (case c5 => decide); (case c2 => exact rfl); (case c3 => exact rfl); (case c4 => exact rfl); k_whole)
  intro D g' L' h' l1 FG' F' N' B' X' T'
  (try dsimp only)
  (try k_lift B')
  (try k_fold)
  k_steps
  have hpow : (l.length + 2) * 2 ^ ps.length ≤ 524288 := by
    have h1 : 2 ^ ps.length ≤ 2 ^ 12 := Nat.pow_le_pow_right (by decide) hp
    calc (l.length + 2) * 2 ^ ps.length ≤ 66 * 2 ^ 12 := Nat.mul_le_mul (by omega) h1
      _ ≤ 524288 := by decide
  refine While_inv (fun n m₁ nw => ∃ (qs x : List Nat) (t : Tok) (D : Addr) (us : List Value), qs.length = n ∧ n ≤ 12 ∧ m₁ (Str.ofString "pairs") = some (.ref D) ∧ m₁ (Str.ofString "text") = some (.str (S x) t) ∧
      nw = (D, ({ cls := .type "tuple", data := .seq us.toArray } : Obj)) :: news ∧ StrsAre us (prs qs) ∧ rep qs x = rep ps l ∧ (x.length + 2) * 2 ^ qs.length ≤ 524288) (n₀ := ps.length) F' N'
    ⟨ps, l, tx, D, vs, rfl, hp, rfl, rfl, rfl, hv, rfl, hpow⟩ ?_ ?_
  · rintro n m₁ nw h₁ tk₁ F₁ N₁ ⟨qs, x, t, D₁, us, hn, hn12, hmp, hmt, rfl, hus, hrep, hbd⟩
    have e : (fun y => if y = Str.ofString "pairs" then some (Value.ref D₁) else if y = Str.ofString "text" then some (Value.str (S x) t) else m₁ y) = m₁ := by
      funext y
      by_cases h1 : y = Str.ofString "pairs"
      · rw [if_pos h1, h1, hmp]
      · rw [if_neg h1]
        by_cases h2 : y = Str.ofString "text"
        · rw [if_pos h2, h2, hmt]
        · rw [if_neg h2]
    rw [← e] at F₁
    clear e hmp hmt F' N'
    have husl := StrsAre.len hus
    have hql : (prs qs).length = 2 * qs.length := prs_len qs
    (try k_fold)
    k_steps
    refine ktl_truthyK (by k_asm) (.head _) (by omega) ?_
    cases qs with
    | nil =>
      cases hus
      rw [show (!([] : List Value).isEmpty) = false from rfl]
      k_steps
      rw [← hrep] at hret
      exact hret _ _ _ (by assumption) (cb_drop (by assumption) fun p hp => List.mem_cons_of_mem _ hp)
    | cons c r =>
      change StrsAre us (S [c] :: car c :: prs r) at hus
      cases hus with
      | cons y1 t1 hus =>
        cases hus with
        | cons y2 t2 hus =>
          rename_i ur
          rw [show (!(Value.str (S [c]) t1 :: Value.str (car c) t2 :: ur).isEmpty) = true from rfl]
          have hi0 : seqIndex? 0 (Value.str (S [c]) t1 :: Value.str (car c) t2 :: ur).length = some 0 := by
            unfold seqIndex?; simp
            omega
          have hi1 : seqIndex? 1 (Value.str (S [c]) t1 :: Value.str (car c) t2 :: ur).length = some 1 := by
            unfold seqIndex?; simp
            omega
          have hxb : (x.length + 2) * (2 * 2 ^ r.length) ≤ 524288 := by
            have := hbd
            rw [List.length_cons, Nat.pow_succ] at this
            rw [Nat.mul_comm 2]
            exact this
          have h2p : 1 ≤ 2 ^ r.length := Nat.one_le_two_pow
          have hxl : x.length + 2 ≤ 524288 := Nat.le_trans (Nat.le_mul_of_pos_right _ (by omega)) hxb
          k_steps
          refine splitN1 (by k_asm) (by k_asm) (by rw [S_length]; rfl) ?_ (hsz := by rw [S_length, sizeLine_eq]; omega)
          intro ls h5 k5 hls F5 N5
          have hS5 := strsAre_vals ls
          rw [hls, txt_split_S] at hS5
          clear hls
          generalize strValues ls = vl at hS5 N5
          k_steps
          rw [car_S]
          refine join_list (News.isList (by k_asm) (.head _)) hS5 ?_ ?_
          · rw [sum_S, List.length_map, S_length]
            have := cut_sum c x
            simp only [List.length_cons, List.length_nil]
            omega
          · intro t7 k7
            rw [txt_join_S]
            k_steps
            refine slice_tuple_from (a := 2) (s := ⟨_, _, _, _, _⟩) (by k_asm) (by k_asm) (News.isTup (by k_asm) (.tail _ (.head _))) (by decide) ?_ ?_ (by with_unfolding_all rfl) (by intro _; with_unfolding_all rfl) (hsz := ?_)
            · simp
            · intro h8 F8 N8
              k_steps
              have hn2 : r.length < n := by rw [← hn, List.length_cons]; exact Nat.lt_succ_self _
              have hb2 : ((rp1 c x).length + 2) * 2 ^ r.length ≤ 524288 := by
                have h1 := rp1_le c x
                calc ((rp1 c x).length + 2) * 2 ^ r.length ≤ (2 * (x.length + 2)) * 2 ^ r.length := Nat.mul_le_mul_right _ (by omega)
                  _ = (x.length + 2) * (2 * 2 ^ r.length) := by rw [Nat.mul_comm 2, Nat.mul_assoc]
                  _ ≤ 524288 := hxb
              exact WhileStep.intro (n' := r.length) (by assumption) (cb_drop (by assumption) (by exact List.forall_mem_cons.mpr ⟨List.Mem.head _, fun p hp => by repeat (first | exact hp | refine List.mem_cons_of_mem _ ?_)⟩)) hn2
                ⟨r, rp1 c x, _, _, ur, rfl, by omega, rfl, rfl, rfl, hus, hrep, hb2⟩
            · rw [List.size_toArray, sizeLine_eq]
              omega
  · passes_own
end
end Mine
end

section
open PySem PySem.W PyProof.Rows PySem.Calls
namespace Mine
/-- codes as ints -/
def zs (ps : List Nat) : List Int := ps.map fun i : Nat => (i : Int)
def Low (d : List Nat) : Prop := ∀ c ∈ d, c < 128
theorem low_all {d : List Nat} (h : Low d) : (S d).cps.all (· < 128) = true := by
  rw [← Array.all_toList, S_toList, List.all_eq_true]
  exact fun c hc => decide_eq_true (h c hc)
theorem zs_any (ps : List Nat) (c : Nat) : ((zs ps).any fun x => x == (c : Int)) = decide (c ∈ ps) := by
  rw [Bool.eq_iff_iff, List.any_eq_true, decide_eq_true_iff]
  unfold zs
  constructor
  · rintro ⟨x, hx, he⟩
    obtain ⟨i, hi, rfl⟩ := List.mem_map.mp hx
    have := beq_iff_eq.mp he
    obtain rfl : i = c := by omega
    exact hi
  · intro h
    exact ⟨(c : Int), List.mem_map.mpr ⟨c, h, rfl⟩, beq_iff_eq.mpr rfl⟩
theorem wr1_zs (ps : List Nat) (c : Nat) : wr1 (zs ps) c = if c ∈ ps then [94, c ^^^ 64] else [c] := by
  unfold wr1
  rw [zs_any]
  simp only [decide_eq_true_eq]
theorem cut_step (q : Nat → Bool) {c : Nat} (h : q c = false) (r : List Nat) : ∃ p ps, cutBy q r = p :: ps ∧ cutBy q (c :: r) = (c :: p) :: ps := by
  have hne := cutBy_ne q r
  cases hr : cutBy q r with
  | nil => exact absurd hr hne
  | cons p ps =>
    refine ⟨p, ps, rfl, ?_⟩
    rw [cutBy, if_neg (by rw [h]; decide), hr]
theorem glue_in (sep p a : List Nat) (ps : List (List Nat)) : glue sep ((a ++ p) :: ps) = a ++ glue sep (p :: ps) := by
  cases ps with
  | nil => rfl
  | cons y t => simp [glue]
theorem rp1_flat (c : Nat) : ∀ x, rp1 c x = x.flatMap fun y => if y = c then [94, c ^^^ 64] else [y]
  | [] => rfl
  | y :: r => by
    have ih := rp1_flat c r
    rw [List.flatMap_cons, ← ih]
    unfold rp1
    by_cases h : y = c
    · subst h
      rw [if_pos rfl, cutBy, if_pos (by simp), glue_cons _ _ (cutBy_ne _ _)]
      simp
    · rw [if_neg h]
      obtain ⟨p, ps, e1, e2⟩ := cut_step (· == c) (c := y) (by simpa using h) r
      rw [e1, e2]
      exact glue_in _ p [y] ps
theorem rep_wrl (ps d : List Nat) (hp : ∀ c ∈ ps, c ∈ ctls) : rep ps d = wrl (zs ps) d := by
  unfold wrl
  induction ps generalizing d with
  | nil =>
    show d = _
    induction d with
    | nil => rfl
    | cons a r ih => rw [List.flatMap_cons, ← ih, wr1_zs]; simp
  | cons c r ih =>
    show rep r (rp1 c d) = _
    rw [ih _ fun x hx => hp x (List.mem_cons_of_mem _ hx), rp1_flat, List.flatMap_assoc]
    have hc : c ∈ ctls := hp c List.mem_cons_self
    have out : ∀ c ∈ ctls, (94 : Nat) ∉ ctls ∧ (c ^^^ 64) ∉ ctls := by decide
    have h94 : (94 : Nat) ∉ r := fun h => (out c hc).1 (hp _ (List.mem_cons_of_mem _ h))
    have hx64 : (c ^^^ 64) ∉ r := fun h => (out c hc).2 (hp _ (List.mem_cons_of_mem _ h))
    congr 1
    funext y
    by_cases h : y = c
    · subst h
      rw [if_pos rfl, List.flatMap_cons, List.flatMap_cons, wr1_zs, wr1_zs, wr1_zs, if_neg h94, if_neg hx64, if_pos List.mem_cons_self]
      rfl
    · rw [if_neg h, List.flatMap_cons, List.flatMap_nil, List.append_nil, wr1_zs, wr1_zs]
      simp [h]
theorem wrl_low (ns : List Int) {d : List Nat} (hd : Low d) : Low (wrl ns d) := by
  intro x hx
  obtain ⟨c, hc, hx⟩ := List.mem_flatMap.mp hx
  have hlt : ∀ c < 128, c ^^^ 64 < 128 := by decide +kernel
  unfold wr1 at hx
  split at hx
  · rcases List.mem_cons.mp hx with rfl | hx
    · decide
    · rw [List.mem_singleton.mp hx]
      exact hlt c (hd c hc)
  · rw [List.mem_singleton.mp hx]
    exact hd c hc
theorem bod_sub (ns : List Int) (d : List Nat) : (bod ns d).Sublist d := (List.take_sublist _ _).trans (List.drop_sublist _ _)
theorem hal_sub (ns : List Int) (d : List Nat) : (hal ns d).1.Sublist d ∧ (hal ns d).2.Sublist d := by
  have hb := bod_sub ns d
  unfold hal
  split
  · exact ⟨List.nil_sublist _, List.nil_sublist _⟩
  · split
    · exact ⟨hb, List.nil_sublist _⟩
    · exact ⟨List.nil_sublist _, hb⟩
    · split
      · exact ⟨(List.take_sublist _ _).trans hb, (List.drop_sublist _ _).trans hb⟩
      · exact ⟨List.nil_sublist _, hb⟩
theorem hal_low (ns : List Int) {d : List Nat} (hd : Low d) : Low (hal ns d).1 ∧ Low (hal ns d).2 :=
  ⟨fun c hc => hd c ((hal_sub ns d).1.subset hc), fun c hc => hd c ((hal_sub ns d).2.subset hc)⟩
theorem hal_len (ns : List Int) (d : List Nat) : (hal ns d).1.length ≤ d.length ∧ (hal ns d).2.length ≤ d.length :=
  ⟨(hal_sub ns d).1.length_le, (hal_sub ns d).2.length_le⟩
theorem sgc_low (dr : List Int) : Low (dr.map sgc) := by
  intro c hc
  obtain ⟨x, _, rfl⟩ := List.mem_map.mp hc
  unfold sgc
  split
  · decide
  split
  · decide
  split
  · unfold ctl
    have h : ∀ k : Nat, (List.getD [(9 : Int), 10, 11, 12, 13, 28, 29, 30, 31, 1, 27, 127] k 0).toNat < 128 := by
      intro k
      by_cases hk : k < 12
      · exact (by decide : ∀ k < 12, (List.getD [(9 : Int), 10, 11, 12, 13, 28, 29, 30, 31, 1, 27, 127] k 0).toNat < 128) k hk
      · rw [List.getD_eq_getElem?_getD, List.getElem?_eq_none (by simpa using Nat.le_of_not_lt hk)]
        decide
    exact h _
  split
  · have h0 := Int.fmod_nonneg_of_pos (Int.fdiv x 60) (b := 128) (by decide)
    have h1 := Int.fmod_lt_of_pos (Int.fdiv x 60) (b := 128) (by decide)
    omega
  · decide

/-- how a written sign stands to the trimming -/
def Stands (f : Nat → List Nat) (w s : Nat → Bool) (l : List Nat) : Prop := ∀ c ∈ l, (w c = true → f c = [c] ∧ s c = true) ∧ (w c = false → f c ≠ [] ∧ ∀ y ∈ f c, s y = false)
theorem Stands.tail {f w s} {c : Nat} {r : List Nat} (h : Stands f w s (c :: r)) : Stands f w s r := fun d hd => h d (List.mem_cons_of_mem _ hd)
theorem Stands.sub {f w s} {a l : List Nat} (h : Stands f w s l) (hs : ∀ c ∈ a, c ∈ l) : Stands f w s a := fun d hd => h d (hs d hd)
theorem drop_flat {f w s} : ∀ {l : List Nat}, Stands f w s l → (l.flatMap f).dropWhile s = (l.dropWhile w).flatMap f
  | [], _ => rfl
  | c :: r, h => by
    have hc := h c List.mem_cons_self
    cases hw : w c with
    | true =>
      obtain ⟨e, hs⟩ := hc.1 hw
      rw [List.flatMap_cons, e, List.dropWhile_cons, if_pos hw, ← drop_flat h.tail]
      show List.dropWhile s (c :: _) = _
      rw [List.dropWhile_cons, if_pos hs]
      rfl
    | false =>
      obtain ⟨hne, hs⟩ := hc.2 hw
      rw [List.dropWhile_cons, if_neg (by rw [hw]; decide), List.flatMap_cons]
      cases hf : f c with
      | nil => exact absurd hf hne
      | cons y t =>
        rw [hf] at hs
        rw [List.cons_append, List.dropWhile_cons, if_neg (by rw [hs y List.mem_cons_self]; decide)]
theorem Stands.rev {f w s} {l : List Nat} (h : Stands f w s l) : Stands (fun c => (f c).reverse) w s l.reverse := by
  intro c hc
  have := h c (List.mem_reverse.mp hc)
  refine ⟨fun hw => ?_, fun hw => ?_⟩
  · obtain ⟨e, hs⟩ := this.1 hw
    exact ⟨by simp [e], hs⟩
  · obtain ⟨hne, hs⟩ := this.2 hw
    exact ⟨by simpa using hne, fun y hy => hs y (List.mem_reverse.mp hy)⟩
theorem flat_rev (f : Nat → List Nat) : ∀ l : List Nat, (l.flatMap f).reverse = l.reverse.flatMap fun c => (f c).reverse
  | [] => rfl
  | c :: r => by
    rw [List.flatMap_cons, List.reverse_append, flat_rev f r, List.reverse_cons, List.flatMap_append]
    simp
theorem rtrim_flat {f w s} {l : List Nat} (h : Stands f w s l) : rtrim s (l.flatMap f) = (rtrim w l).flatMap f := by
  unfold rtrim
  rw [flat_rev, drop_flat h.rev, flat_rev]
  simp
theorem trim_flat {f w s} {l : List Nat} (h : Stands f w s l) : trim s (l.flatMap f) = (trim w l).flatMap f := by
  unfold trim
  rw [drop_flat h, rtrim_flat (h.sub fun c hc => (List.dropWhile_sublist w).subset hc)]
/-- how a written sign stands to the cutting -/
def Cuts (f : Nat → List Nat) (n : Nat → Bool) (l : List Nat) : Prop := ∀ c ∈ l, (n c = true → f c = [10]) ∧ (n c = false → 10 ∉ f c)
theorem cut_pre : ∀ {a : List Nat}, 10 ∉ a → ∀ {r p ps}, cutBy (· == 10) r = p :: ps → cutBy (· == 10) (a ++ r) = (a ++ p) :: ps
  | [], _, _, _, _, h => h
  | x :: a, hx, r, p, ps, h => by
    have ih := cut_pre (fun hm => hx (List.mem_cons_of_mem _ hm) : 10 ∉ a) h
    rw [List.cons_append, cutBy, if_neg (by intro e; exact hx (by rw [beq_iff_eq.mp e]; exact List.mem_cons_self)), ih]
    rfl
theorem cut_flat {f n} : ∀ {l : List Nat}, Cuts f n l → cutBy (· == 10) (l.flatMap f) = (cutBy n l).map (·.flatMap f)
  | [], _ => rfl
  | c :: r, h => by
    have hc := h c List.mem_cons_self
    have ih := cut_flat fun d hd => h d (List.mem_cons_of_mem _ hd)
    cases hn : n c with
    | true =>
      rw [List.flatMap_cons, hc.1 hn, cutBy, if_pos hn, List.map_cons, ← ih]
      show cutBy _ (10 :: _) = _
      rw [cutBy, if_pos (by decide)]
      rfl
    | false =>
      obtain ⟨p, ps, e1, e2⟩ := cut_step n hn r
      rw [e1] at ih
      rw [e2, List.flatMap_cons, cut_pre (hc.2 hn) ih]
      rfl
theorem take_all {w : Nat → Bool} : ∀ {l : List Nat}, ∀ c ∈ l.takeWhile w, w c = true
  | [], c, hc => by simp at hc
  | a :: r, c, hc => by
    rw [List.takeWhile_cons] at hc
    split at hc
    · rename_i ha
      rcases List.mem_cons.mp hc with rfl | hc
      · exact ha
      · exact take_all c hc
    · simp at hc
theorem drop_none {w : Nat → Bool} : ∀ {l : List Nat}, (∀ c ∈ l, w c = true) → l.dropWhile w = []
  | [], _ => rfl
  | a :: r, h => by
    rw [List.dropWhile_cons, if_pos (h a List.mem_cons_self)]
    exact drop_none fun c hc => h c (List.mem_cons_of_mem _ hc)
theorem rtrim_nil {w : Nat → Bool} {l : List Nat} : rtrim w l = [] ↔ ∀ c ∈ l, w c = true := by
  unfold rtrim
  rw [List.reverse_eq_nil_iff]
  constructor
  · intro h c hc
    have := (List.takeWhile_append_dropWhile (p := w) (l := l.reverse))
    rw [h, List.append_nil] at this
    have hm : c ∈ l.reverse.takeWhile w := by rw [this]; exact List.mem_reverse.mpr hc
    exact take_all c hm
  · intro h
    exact drop_none fun x hx => h x (List.mem_reverse.mp hx)
theorem flat_nil {f w s} {l : List Nat} (h : Stands f w s l) : l.flatMap f = [] ↔ l = [] := by
  constructor
  · intro h0
    cases l with
    | nil => rfl
    | cons c r =>
      rw [List.flatMap_cons] at h0
      have h1 := (List.append_eq_nil_iff.mp h0).1
      have hc := h c List.mem_cons_self
      cases hw : w c with
      | true => rw [(hc.1 hw).1] at h1; cases h1
      | false => exact absurd h1 (hc.2 hw).1
  · rintro rfl; rfl
/-- white, and not written -/
def whp (ns : List Int) (c : Nat) : Bool := (whs ns).any fun x => x == (c : Int)
def nlp (ns : List Int) (c : Nat) : Bool := decide ((c : Int) = 10) && (whs ns).any fun x => x == 10
theorem nlp_eq {ns : List Int} {c : Nat} (h : nlp ns c = true) : c = 10 := by
  unfold nlp at h
  have := of_decide_eq_true (Bool.and_eq_true_iff.mp h).1
  omega
theorem nlp_whp {ns : List Int} {c : Nat} (h : nlp ns c = true) : whp ns c = true := by
  obtain rfl := nlp_eq h
  exact (Bool.and_eq_true_iff.mp h).2
theorem whp_iff (ps : List Nat) (c : Nat) : whp (zs ps) c = true ↔ (c : Int) ∈ whT ∧ c ∉ ps := by
  unfold whp whs
  rw [List.any_eq_true]
  constructor
  · rintro ⟨x, hx, he⟩
    obtain rfl := beq_iff_eq.mp he
    obtain ⟨h1, h2⟩ := List.mem_filter.mp hx
    rw [zs_any] at h2
    exact ⟨h1, by simpa using h2⟩
  · rintro ⟨h1, h2⟩
    refine ⟨(c : Int), List.mem_filter.mpr ⟨h1, ?_⟩, beq_iff_eq.mpr rfl⟩
    rw [zs_any]
    simpa using h2
theorem space_low : ∀ c < 128, Unicode.isSpace c = decide ((c : Int) ∈ whT) := by decide +kernel
theorem stands_low (ps d : List Nat) (hp : ∀ c ∈ ps, c ∈ ctls) (hd : Low d) : Stands (wr1 (zs ps)) (whp (zs ps)) Unicode.isSpace d := by
  intro c hc
  have hlt := hd c hc
  refine ⟨fun hw => ?_, fun hw => ?_⟩
  · obtain ⟨h1, h2⟩ := (whp_iff ps c).mp hw
    exact ⟨by rw [wr1_zs, if_neg h2], by rw [space_low c hlt]; exact decide_eq_true h1⟩
  · rw [wr1_zs]
    by_cases hm : c ∈ ps
    · rw [if_pos hm]
      refine ⟨by simp, fun y hy => ?_⟩
      have out : ∀ c ∈ ctls, Unicode.isSpace (c ^^^ 64) = false := by decide +kernel
      rcases List.mem_cons.mp hy with rfl | hy
      · decide +kernel
      · rw [List.mem_singleton.mp hy]
        exact out c (hp c hm)
    · rw [if_neg hm]
      refine ⟨by simp, fun y hy => ?_⟩
      obtain rfl := List.mem_singleton.mp hy
      rw [space_low y hlt]
      refine decide_eq_false fun h1 => ?_
      rw [(whp_iff ps y).mpr ⟨h1, hm⟩] at hw
      cases hw
theorem cuts_low (ps d : List Nat) (hp : ∀ c ∈ ps, c ∈ ctls) : Cuts (wr1 (zs ps)) (nlp (zs ps)) d := by
  intro c _
  refine ⟨fun hn => ?_, fun hn hm => ?_⟩
  · have h2 := ((whp_iff ps c).mp (nlp_whp hn)).2
    rw [wr1_zs, if_neg h2, nlp_eq hn]
  · rw [wr1_zs] at hm
    by_cases h : c ∈ ps
    · rw [if_pos h] at hm
      have out : ∀ c ∈ ctls, 10 ≠ c ^^^ 64 := by decide
      rcases List.mem_cons.mp hm with e | hm
      · cases e
      · exact out c (hp c h) (List.mem_singleton.mp hm)
    · rw [if_neg h] at hm
      obtain rfl := List.mem_singleton.mp hm
      have hw := (whp_iff ps 10).mpr ⟨by decide, h⟩
      unfold nlp at hn
      unfold whp at hw
      have hw' : ((whs (zs ps)).any fun x => x == 10) = true := hw
      rw [hw'] at hn
      exact absurd hn (by decide)
theorem kpt_idx (ns : List Int) (l : List Nat) : kpt ns l = idx (fun c => !whp ns c) l := rfl
theorem eds_idx (ns : List Int) (l : List Nat) : eds ns l = idx (nlp ns) l := rfl
theorem hal_white {ns : List Int} {l : List Nat} (h : ∀ c ∈ l, whp ns c = true) : kpt ns l = [] := by
  rw [kpt_idx]
  exact idx_none fun c hc => by rw [h c hc]; rfl
theorem hal_body {ns : List Int} {u m v : List Nat} {z x : Nat} {t : List Nat} (hu : ∀ c ∈ u, whp ns c = true) (hv : ∀ c ∈ v, whp ns c = true) (hz : whp ns z = false) (e : m ++ [z] = x :: t) (hx : whp ns x = false) :
    kpt ns (u ++ (m ++ [z]) ++ v) ≠ [] ∧ bod ns (u ++ (m ++ [z]) ++ v) = m ++ [z] := by
  have k1 : kpt ns (u ++ (m ++ [z]) ++ v) = u.length :: (idx (fun c => !whp ns c) (t ++ v)).map (u.length + 1 + ·) := by
    rw [kpt_idx, show u ++ (m ++ [z]) ++ v = u ++ x :: (t ++ v) by rw [e]; simp]
    exact idx_first (fun c hc => by rw [hu c hc]; rfl) (by rw [hx]; rfl)
  have k2 : kpt ns (u ++ (m ++ [z]) ++ v) = idx (fun c => !whp ns c) (u ++ m) ++ [(u ++ m).length] := by
    rw [kpt_idx, show u ++ (m ++ [z]) ++ v = (u ++ m) ++ z :: v by simp]
    exact idx_last (fun c hc => by rw [hv c hc]; rfl) (by rw [hz]; rfl)
  have e1 : (kpt ns (u ++ (m ++ [z]) ++ v)).headD 0 = u.length := by rw [k1]; rfl
  have e2 : (kpt ns (u ++ (m ++ [z]) ++ v)).getLastD 0 = u.length + m.length := by rw [k2]; simp
  refine ⟨by rw [k1]; simp, ?_⟩
  unfold bod
  rw [e1, e2, List.append_assoc, List.drop_left]
  have hl : u.length + m.length + 1 - u.length = (m ++ [z]).length := by simp; omega
  rw [hl, List.take_left]
theorem law_pure (ps d : List Nat) (hp : ∀ c ∈ ps, c ∈ ctls) (hd : Low d) : sd (wrl (zs ps) d) = (wrl (zs ps) (hal (zs ps) d).1, wrl (zs ps) (hal (zs ps) d).2) := by
  have hst := stands_low ps d hp hd
  have hcu := cuts_low ps (trim (whp (zs ps)) d) hp
  unfold wrl sd
  rw [trim_flat hst, cut_flat hcu]
  rcases trim_parts (whp (zs ps)) d with ⟨hall, ht⟩ | ⟨u, m, z, v, hdd, ht, hu, hv, hz, x, t, hxt, hx⟩
  · rw [ht]
    have : hal (zs ps) d = ([], []) := by unfold hal; rw [if_pos (hal_white hall)]
    rw [this]
    rfl
  · have hb := hal_body hu hv hz hxt hx
    rw [← hdd] at hb
    have hsub : ∀ c ∈ m ++ [z], c ∈ d := fun c hc => by rw [hdd]; exact List.mem_append_left _ (List.mem_append_right _ hc)
    rw [ht]
    generalize hbb : m ++ [z] = b at *
    have hstb : Stands (wr1 (zs ps)) (whp (zs ps)) Unicode.isSpace b := hst.sub hsub
    have hgl : ∀ l : List Nat, glue [10] ((cutBy (nlp (zs ps)) l).map (·.flatMap (wr1 (zs ps)))) = l.flatMap (wr1 (zs ps)) := fun l => by
      rw [← cut_flat (cuts_low ps l hp), glue_cutBy]
    have hal_eq : hal (zs ps) d = match idx (nlp (zs ps)) b with
      | [] => (b, [])
      | [_] => ([], b)
      | e0 :: e1 :: _ => if ((b.drop e0).take (e1 - e0)).filter (fun c : Nat => !whp (zs ps) c) = [] then (b.take e0, b.drop (e1 + 1)) else ([], b) := by
      unfold hal
      rw [if_neg hb.1, hb.2]
      rfl
    have hrt : ∀ l : List Nat, (∀ c ∈ l, c ∈ b) → (rtrim Unicode.isSpace (l.flatMap (wr1 (zs ps))) = [] ↔ ∀ c ∈ l, whp (zs ps) c = true) := fun l hl => by
      have h := hstb.sub hl
      rw [rtrim_flat h, flat_nil (h.sub fun c hc => ?_), rtrim_nil]
      unfold rtrim at hc
      exact List.mem_reverse.mp ((List.dropWhile_sublist _).subset (List.mem_reverse.mp hc))
    rw [hal_eq]
    rcases split_first (nlp (zs ps)) b with hno | ⟨p, y, r, hpr, hpn, hy⟩
    · rw [idx_none hno, cut_none hno]
      rfl
    · have hgb := hgl b
      rw [hpr, cut_first hy hpn] at hgb
      rcases split_first (nlp (zs ps)) r with hno | ⟨p2, y2, r2, hpr2, hpn2, hy2⟩
      · have hzr : z ∈ r := by
          have hb' : m ++ [z] = p ++ y :: r := hbb.trans hpr
          have h1 := congrArg List.getLast? hb'
          cases r with
          | nil =>
            simp at h1
            rw [h1, nlp_whp hy] at hz
            cases hz
          | cons a q =>
            have h2 : (a :: q).getLast? = some z := by
              rw [List.getLast?_append, List.getLast?_append] at h1
              simp [List.getLast?_cons_cons] at h1
              exact h1.symm
            exact List.mem_of_getLast? h2
        rw [hpr, idx_first hpn hy, cut_first hy hpn, idx_none hno]
        rw [cut_none hno] at hgb ⊢
        simp only [List.map_cons, List.map_nil] at hgb ⊢
        rw [if_neg, hgb]
        · rfl
        · intro h0
          have := (hrt r fun c hc => by rw [hpr]; simp [hc]).mp h0 z hzr
          rw [this] at hz
          cases hz
      · have hcut : cutBy (nlp (zs ps)) r = p2 :: cutBy (nlp (zs ps)) r2 := by rw [hpr2]; exact cut_first hy2 hpn2
        have hidx : idx (nlp (zs ps)) b = p.length :: (p.length + 1 + p2.length) :: ((idx (nlp (zs ps)) r2).map (p2.length + 1 + ·)).map (p.length + 1 + ·) := by
          rw [hpr, idx_first hpn hy, hpr2, idx_first hpn2 hy2]
          rfl
        have hbe : b = p ++ ((y :: p2) ++ y2 :: r2) := by rw [hpr, hpr2]; rfl
        have e1 : (b.drop p.length).take (p.length + 1 + p2.length - p.length) = y :: p2 := by
          rw [hbe, List.drop_left, show p.length + 1 + p2.length - p.length = (y :: p2).length by simp; omega, List.take_left]
        have e2 : b.take p.length = p := by rw [hbe, List.take_left]
        have e3 : b.drop (p.length + 1 + p2.length + 1) = r2 := by
          rw [hbe, show p ++ ((y :: p2) ++ y2 :: r2) = (p ++ (y :: p2) ++ [y2]) ++ r2 by simp, show p.length + 1 + p2.length + 1 = (p ++ (y :: p2) ++ [y2]).length by simp; omega, List.drop_left]
        rw [hidx]
        simp only [e1, e2, e3]
        rw [hpr, cut_first hy hpn, hcut]
        rw [hcut] at hgb
        simp only [List.map_cons] at hgb ⊢
        have hiff := hrt p2 fun c hc => by rw [hbe]; simp [hc]
        have hfil : (y :: p2).filter (fun c : Nat => !whp (zs ps) c) = [] ↔ ∀ c ∈ p2, whp (zs ps) c = true := by
          rw [List.filter_eq_nil_iff]
          constructor
          · intro h c hc
            have := h c (List.mem_cons_of_mem _ hc)
            simpa using this
          · intro h c hc
            rcases List.mem_cons.mp hc with rfl | hc
            · rw [nlp_whp hy]; decide
            · rw [h c hc]; decide
        by_cases hall : ∀ c ∈ p2, whp (zs ps) c = true
        · rw [if_pos (hiff.mpr hall), if_pos (hfil.mpr hall), hgl]
        · rw [if_neg (fun h => hall (hiff.mp h)), if_neg (fun h => hall (hfil.mp h)), hgb]
          rw [← hpr]
          rfl
end Mine
end

section
open PySem PySem.W PyProof.Rows PySem.Calls
namespace Mine
theorem top_off_L1 : True := by
  w_top off
  trivial
theorem gen_toks {α : Type} {M : Model} {A : Around} {t : Sem α} {Q : α → Shared → Prop} {E : Value → Shared → Prop} {hp : Heap} {gs : Array GenState} {dr : Drawn} {X : Nat} {os : OsState}
    (h : ∀ tk, wpAny M A t Q E ⟨hp, gs, dr, tk, os⟩) : wpAny M A t Q E ⟨hp, gs, dr, X, os⟩ := h X
local macro_rules | `(tactic| walk_at "eval ListComp") => `(tactic| (k_here; refine Halt.out ?_))
local macro_rules | `(tactic| k_mem) => `(tactic| assumption)
local macro_rules | `(tactic| walk_at "execs cons") => `(tactic| (k_here; (with_reducible show wpAny _ _ (execs _ _) _ _ (Shared.mk _ _ _ (_ + 1) _)); refine gen_toks ?_; intro tk))
local macro_rules | `(tactic| walk_at "CompSrc") => `(tactic| (k_here; refine Halt.out ?_))
local macro_rules | `(tactic| walk_at "call builtin:str.join") => `(tactic| (k_here; refine Halt.out ?_))
local macro_rules | `(tactic| walk_at "exec Assign cons ListComp") => `(tactic| (k_here; refine Halt.out ?_))
local macro_rules | `(tactic| walk_at "exec For Name Name cons nil") => `(tactic| (k_here; refine Halt.out ?_))
local macro_rules | `(tactic| walk_at "exec For Name Call cons nil") => `(tactic| (k_here; refine Halt.out ?_))
local macro_rules | `(tactic| walk_at "exec For Name List cons nil") => `(tactic| (k_here; refine Halt.out ?_))
local macro_rules | `(tactic| walk_at "call ref") => `(tactic| (k_here; (with_reducible show wpAny _ _ (call (Value.ref 63) [Value.int _ _]) _ _ _); k_dflt (refine' c_sign ?k1 ?k2 ?k3 ?k4 ?k5 ?k6 ?k7 ?k8 ?_; (case k1 => k_asm); (case k2 => k_asm); (case k3 => k_asm); (case k4 => k_asm); (case k5 => k_asm); (case k6 => exact rfl); (case k7 => decide); (case k8 => decide); k_whole); intro t' h' tk' F' N'; (try dsimp only); (try k_sweep); (try k_fold)))
local macro_rules | `(tactic| walk_at "call ref") => `(tactic| (k_here; (with_reducible show wpAny _ _ (call (Value.ref 56) [Value.int _ _]) _ _ _); k_dflt (refine' c_control ?k1 ?k2 ?k3 ?k4 ?k5 ?k6 ?k7 ?k8 ?_; (case k1 => k_asm); (case k2 => k_asm); (case k3 => k_asm); (case k4 => k_asm); (case k5 => k_asm); (case k6 => exact rfl); (case k7 => decide); (case k8 => decide); k_whole); intro t' h' tk' F' N'; (try dsimp only); (try k_sweep); (try k_fold)))
local macro_rules | `(tactic| walk_at "call ref") => `(tactic| (k_here; (with_reducible show wpAny _ _ (call (Value.ref 49) [Value.str _ _]) _ _ _); k_dflt (refine' c_unctrl ?k0 ?k1 ?k2 ?k3 ?k4 ?k5 ?k6 ?k7 ?k8 ?_; (case k0 => assumption); (case k1 => k_asm); (case k2 => k_asm); (case k3 => k_asm); (case k4 => k_asm); (case k5 => k_asm); (case k6 => exact rfl); (case k7 => decide); (case k8 => decide); k_whole); intro t' h' tk' F' N'; (try dsimp only); (try k_sweep); (try k_fold)))
local macro_rules | `(tactic| walk_at "pyIter ref") => `(tactic| (k_here; refine Halt.out ?_))
local macro_rules | `(tactic| walk_at "call builtin:list.extend") => `(tactic| (k_here; refine Halt.out ?_))
/-- the controls as codes -/
def mkn (dr : List Int) : List Nat := dr.map fun x => (ctl x).toNat
theorem ctl_toNat (x : Int) : (((ctl x).toNat : Nat) : Int) = ctl x := Int.toNat_of_nonneg (ctl_lo x)
theorem ctl_ctls (x : Int) : (ctl x).toNat ∈ ctls := (show ∀ y ∈ ([9, 10, 11, 12, 13, 28, 29, 30, 31, 1, 27, 127] : List Int), y.toNat ∈ ctls by decide) _ (ctl_mem x)
theorem mkn_ints (dr : List Int) : dr.map ctl = zs (mkn dr) := by
  unfold zs mkn
  rw [List.map_map]
  exact List.map_congr_left fun x _ => (ctl_toNat x).symm
theorem prs_snoc (ps : List Nat) (c : Nat) : prs (ps ++ [c]) = prs ps ++ [S [c], car c] := by
  unfold prs
  rw [List.flatMap_append]
  rfl
theorem StrsAre.app : ∀ {vs ws : List Value} {xs ys : List Str}, StrsAre vs xs → StrsAre ws ys → StrsAre (vs ++ ws) (xs ++ ys)
  | _, _, _, _, .nil, h => h
  | _, _, _, _, .cons y t r, h => .cons y t (StrsAre.app r h)
theorem three_of {m : Str → Option Value} {a b c : Str} {va vb vc : Value} (h1 : m a = some va) (h2 : m b = some vb) (h3 : m c = some vc) :
    m = fun x => if x = a then some va else if x = b then some vb else if x = c then some vc else m x := by
  funext x
  by_cases e1 : x = a
  · rw [if_pos e1, e1, h1]
  · rw [if_neg e1]
    by_cases e2 : x = b
    · rw [if_pos e2, e2, h2]
    · rw [if_neg e2]
      by_cases e3 : x = c
      · rw [if_pos e3, e3, h3]
      · rw [if_neg e3]
local macro_rules | `(tactic| walk_at "InvEndN") => `(tactic| (k_here; refine Halt.out ?_))
section
variable {prog : Program} {w : World} {A : Around} {E : Value → Shared → Prop} {s : Shared} {env : Env} {h₀ : Heap} {x : Str} {body : List Stmt} {Q : Flow → Shared → Prop}
/-- a loop over a made list, its turns keeping what is there -/
theorem iter_lawL {l : Addr} {vs : List Value} {nn : Nat} {m₀ : Str → Option Value} {news : List (Addr × Obj)} (stored : List Str)
    (hh : A.handled = none) (hl : (l, listOf vs.toArray nn) ∈ news) (F : Fr h₀ env.locals s.heap m₀) (N : News h₀ env.locals s.heap news)
    (turn : ∀ v (u : Str → Option Value) h tk own, v ∈ vs → Fr h₀ env.locals h (fun y => if y = x then some v else if stored.contains y then u y else m₀ y) → News h₀ env.locals h (own ++ news) →
      wpAny (model prog w) A (execs body env) (TurnPost h₀ env.locals x stored m₀ (own ++ news) { s with heap := h, toks := tk } Q) E { s with heap := h, toks := tk })
    (done : ∀ (u : Str → Option Value) h tk, Fr h₀ env.locals h (fun y => if y = x then u y else if stored.contains y then u y else m₀ y) → News h₀ env.locals h news → Q .next { s with heap := h, toks := tk }) :
    wpAny (model prog w) A (pyIter (.ref l)) (fun it s₂ => LoopAtV prog w A h₀ env x body Q E it s₂) E s := by
  have hol : s.heap.get? l = some (listOf vs.toArray nn) := (N _ hl).1
  have hls : s.heap.IsList l vs.toArray := ⟨_, hol, rfl, nn, rfl⟩
  have hlt : l < s.heap.objs.size := Heap.lt_size hol
  refine wpAny_pyIter_list hls ?_
  refine loop_at_law (s := { s with heap := s.heap.push { cls := .type "list_iterator", data := .fields #[.ref l, .int 0 0] } }) stored (Walks.list hh s.heap.objs.size l (Nat.ne_of_lt hlt) vs.toArray) ?_ ?_ ?_ ⟨⟨_, Heap.get?_push_size _ rfl, rfl, rfl⟩, hls.push _⟩ (F.push _) (fun p hp => ⟨Heap.get?_push_of_some _ (N p hp).1, (N p hp).2⟩) ?_ ?_
  · intro hm
    rcases List.mem_cons.mp hm with e | hm
    · exact absurd F.ns.lt (e ▸ Nat.lt_irrefl _)
    · exact (N _ hl).2.1 (List.mem_singleton.mp hm).symm
  · intro b hb
    rw [List.mem_singleton.mp hb]
    exact next_is_new F
  · intro p hp hI
    exact absurd (Heap.lt_size (N p hp).1) ((List.mem_singleton.mp hI) ▸ Nat.lt_irrefl _)
  · intro i v u h tk own hi hP F₁ N₁
    exact turn v u h tk own (List.mem_of_getElem? (by simpa using hP)) F₁ N₁
  · exact done
end
local macro_rules | `(tactic| walk_at "subscriptTail Name Slice str ref") => `(tactic| (k_here; refine Halt.out ?_))
local macro_rules | `(tactic| walk_at "subscriptTail Name Slice ref ref") => `(tactic| (k_here; (first | (with_reducible show wpAny _ _ (subscriptTail (Expr.Name (Str.ofString "marks") _) _ _ _) _ _ _) | (with_reducible show wpAny _ _ (subscriptTail (Expr.Name (Str.ofString "there") _) _ _ _) _ _ _)); refine Halt.out ?_))
local macro_rules | `(tactic| walk_at "call ref") => `(tactic| (k_here; (first | (with_reducible show wpAny _ _ (call (Value.ref 73) _) _ _ _) | (with_reducible show wpAny _ _ (call (Value.ref 68) _) _ _ _) | (with_reducible show wpAny _ _ (call (Value.ref 28) _) _ _ _) | (with_reducible show wpAny _ _ (call (Value.ref 21) _) _ _ _)); refine Halt.out ?_))
local macro_rules | `(tactic| walk_at "compareOp NotEq ref ref") => `(tactic| (k_here; refine Halt.out ?_))
local macro_rules | `(tactic| walk_at "StarOf ref") => `(tactic| (k_here; refine Halt.out ?_))
theorem mem_led {h₀ h : Heap} {L : Addr} {W : List (Addr × Obj)} {p : Addr × Obj} (_N : News h₀ L h W) (hm : p ∈ W) : p ∈ W := hm
def led {h₀ h : Heap} {L : Addr} {W : List (Addr × Obj)} (_N : News h₀ L h W) : List (Addr × Obj) := W
theorem StrsAre.tk : ∀ {vs : List Value} {ys : List Str} (n : Nat), StrsAre vs ys → StrsAre (vs.take n) (ys.take n)
  | _, _, 0, _ => .nil
  | _, _, _ + 1, .nil => .nil
  | _, _, n + 1, .cons y t r => .cons y t (StrsAre.tk n r)
theorem prs_take : ∀ (ps : List Nat) (n : Nat), (prs ps).take (2 * n) = prs (ps.take n)
  | _, 0 => by simp [prs]
  | [], n + 1 => by simp [prs]
  | c :: r, n + 1 => by
    have ih := prs_take r n
    show (S [c] :: car c :: prs r).take (2 * n + 2) = S [c] :: car c :: prs (r.take n)
    rw [List.take_succ_cons, List.take_succ_cons, ih]
theorem pick_upto (us : List Value) (n : Nat) : kms_pick us none (some (2 * (n : Int))) = us.take (2 * n) := by
  unfold kms_pick kms_lo kms_hi
  dsimp only
  rw [if_neg (by omega), List.drop_zero, Nat.sub_zero, show (2 * (n : Int)).toNat = 2 * n by omega, kmk_take_min]
theorem same_pair (x y : Str) : (!decide (x = x ∧ y = y)) = false := by simp
theorem zs_take (ps : List Nat) (n : Nat) : (zs ps).take ((n : Int)).toNat = zs (ps.take n) := by
  unfold zs
  rw [Int.toNat_natCast, List.map_take]
theorem range_map_getD {α β : Type} (d : α) (f : α → β) (l : List α) : ((List.range l.length).map fun i => f (l.getD i d)) = l.map f := by
  apply List.ext_getElem
  · simp
  · intro i h1 h2
    have hi : i < l.length := by simpa using h2
    simp [hi]
theorem drawn_len (ns : List Int) : (List.take 3 ns ++ [4, 0, 42, 5, 54, 2] ++ List.take (min 6 ns.length - 3) (List.drop 3 ns)).length ≤ 12 := by
  simp only [List.length_append, List.length_take, List.length_cons, List.length_nil, List.length_drop]
  omega
theorem flat_one {α : Type} (f : α → Nat) (l : List α) : (l.flatMap fun x => [f x]) = l.map f := by
  induction l with
  | nil => rfl
  | cons a r ih => simp [ih]
set_option pp.deepTerms false in
set_option pp.proofs.threshold 0 in
set_option pp.deepTerms.threshold 8 in
set_option maxRecDepth 100000 in
set_option maxHeartbeats 8000000 in
theorem t1 : PySem.Challenge.rw_mq0056_01.Holds := hd (by
  k_go0
  (all_goals try k_fold)
  k_steps
  (rename IntsAre _ _ => hD0)
  obtain ⟨dr, hD, hdl⟩ : ∃ dr, IntsAre _ dr ∧ dr.length ≤ 12 := ⟨_, hD0, drawn_len _⟩
  clear hD0
  have hdl2 := hD.length
  k_dflt (refine' LCg.ListComp_U (F₀ := by k_asm) ?ya ?yb ?yc ?yd ?ye ?_ ?yg; (case ya => with_unfolding_all rfl); (case yb => decide); (case yc => rfl); (case yd => decide); (case ye => rfl); (case yg => intro _; rfl))
  k_steps
  refine LCg.CompSrc.ledger rfl (by k_asm) (by k_asm) (List.Mem.head _) (by rw [List.size_toArray, hdl2, sizeLine_eq]; omega) ?_
  intro g2
  refine rest_U (fun i y => ∃ t, y = .str (S [sgc (dr.getD i 0)]) t) (.inr ⟨_, List.Mem.head _, rfl, _, rfl⟩) ?_ ?_
  · intro i v I oI C oC D m₂ ys h tk E' hi hv hC hx' F N off ne
    obtain ⟨k, t, rfl, hk⟩ := IntsAre.at hD i v (by simpa using hv)
    have hkd : dr.getD i 0 = k := by rw [List.getD_eq_getElem?_getD, hk]; rfl
    (try k_fold)
    k_steps
    exact TurnEnd.intro (by assumption) (by assumption) ⟨_, by rw [hkd]; rfl⟩
  intro ys hys
  have hY : StrsAre ys (dr.map fun x => S [sgc x]) := by
    have h0 := hys.strs (f := fun i => S [sgc (dr.getD i 0)])
    rw [List.size_toArray, hdl2, range_map_getD 0 (fun x => S [sgc x])] at h0
    exact h0
  clear hys
  k_steps
  rw [empty_S]
  refine join_list (News.isList (by k_asm) (List.Mem.head _)) hY ?_ ?_
  · have e1 : ((dr.map fun x => S [sgc x]).map (·.length)).sum = dr.length := by
      clear hY hD hdl hdl2
      induction dr with
      | nil => rfl
      | cons a r ih => simp only [List.map_cons, List.sum_cons, List.length_cons, S_length, ih, List.length_nil]; omega
    rw [e1, S_length, List.length_nil, Nat.mul_zero]
    omega
  intro tp kp
  rw [txt_join_nil, flat_one]
  have hpl : (dr.map sgc).length ≤ 12 := by rw [List.length_map]; exact hdl
  clear hY
  k_steps
  k_dflt (refine' LCg.Assign_ListComp_U (F₀ := by k_asm) ?yi ?yj ?ya ?yb ?yc ?yd ?ye ?yk ?yl ?_ ?yg; (case yi => rfl); (case yj => exact swaps_local (by with_unfolding_all rfl)); (case ya => with_unfolding_all rfl); (case yb => decide); (case yc => rfl); (case yd => decide); (case ye => rfl); (case yk => rfl); (case yl => rfl); (case yg => intro _; rfl))
  k_steps
  refine LCg.CompSrc.ledger rfl (by k_asm) (by k_asm) (List.Mem.tail _ (List.Mem.head _)) (by rw [List.size_toArray, hdl2, sizeLine_eq]; omega) ?_
  intro g3
  refine rest_U (fun i y => ∃ t, y = .int (ctl (dr.getD i 0)) t) (.inr ⟨_, List.Mem.tail _ (List.Mem.head _), rfl, _, rfl⟩) ?_ ?_
  · intro i v I oI C oC D m₂ ys h tk E' hi hv hC hx' F N off ne
    obtain ⟨k, t, rfl, hk⟩ := IntsAre.at hD i v (by simpa using hv)
    have hkd : dr.getD i 0 = k := by rw [List.getD_eq_getElem?_getD, hk]; rfl
    (try k_fold)
    k_steps
    exact TurnEnd.intro (by assumption) (by assumption) ⟨_, by rw [hkd]⟩
  intro mv hys
  have hM : IntsAre mv (dr.map ctl) := by
    have h0 := hys.ints (f := fun i => ctl (dr.getD i 0))
    rw [List.size_toArray, hdl2, range_map_getD 0 ctl] at h0
    exact h0
  clear hys
  k_steps
  (rename Fr _ _ _ _ => hF1)
  (rename News _ _ _ _ => hN1)
  (rename _ ∧ _ => hlt1)
  replace hN1 := cb_drop (news := [_, _]) hN1 (List.forall_mem_cons.mpr ⟨List.Mem.head _, List.forall_mem_cons.mpr ⟨List.Mem.tail _ (List.Mem.head _), List.forall_mem_nil _⟩⟩)
  rename_i dM hA1 tkA1 o1A dT hA2 hA3 tkA2
  have hTM : @Ne Nat dM dT := Nat.ne_of_lt hlt1.1
  k_dflt (refine' For_invVF hF1 ?zx ?zp ?_ ?zs ?zE; (case zx => exact rfl); (case zp => exact rfl); (case zs => intro _; rfl); (case zE => passes_own))
  k_steps
  refine iter_invNL (l := dM) (vs := mv) (nn := mv.length) (news := [(dT, listOf #[] 0), (dM, listOf mv.toArray mv.length)])
    (fun i m nx => (m (Str.ofString "there") = some (Value.ref dT) ∧ m (Str.ofString "marks") = some (Value.ref dM) ∧ m (Str.ofString "page") = some (Value.str (S (dr.map sgc)) tp)) ∧
      ∃ us k, nx = [(dT, listOf us.toArray k), (dM, listOf mv.toArray mv.length)] ∧ StrsAre us (prs ((mkn dr).take i)))
    rfl (List.Mem.tail _ (List.Mem.head _)) hM hF1 hN1 ⟨⟨rfl, rfl, rfl⟩, [], 0, rfl, .nil⟩ ?_ ?_
  · rintro i n t m₁ news₁ h tk own hn hadr hoff hlm ⟨⟨h1, h2, h3⟩, us, k, rfl, hus⟩ F N
    rw [three_of h1 h2 h3] at F
    obtain ⟨x, hxi, rfl⟩ : ∃ x, dr[i]? = some x ∧ ctl x = n := by
      rw [List.getElem?_map] at hn
      cases hx : dr[i]? with
      | none => rw [hx] at hn; cases hn
      | some x => rw [hx] at hn; exact ⟨x, rfl, Option.some.inj hn⟩
    have hn0 := ctl_lo x
    have hn1 := ctl_top x
    have hnc := ctl_ctls x
    clear hn hadr hF1 hN1
    (try k_fold)
    k_steps
    (rename ∀ p : Addr × Obj, p ∈ _ → p.1 < _ => hl8)
    have husl := StrsAre.len hus
    rw [prs_len, List.length_take] at husl
    have hml : (mkn dr).length ≤ 12 := by unfold mkn; rw [List.length_map]; exact hdl
    have hul : us.length ≤ 24 := by omega
    refine kl_extend (by k_asm) (by k_asm) (List.Mem.head _) rfl (by simp) (Upd.tail ?_ (Upd.head ?_)) (extend_door ?_) ?_ ?_ ?_
    · exact Nat.ne_of_gt (hl8 (dT, _) (List.Mem.head _))
    · intro p hp
      rcases List.mem_cons.mp hp with rfl | hp
      · exact hTM
      · exact hoff p hp dT (by simp)
    · simp; rw [sizeLine_eq]; omega
    · simp; rw [sizeLine_eq]; omega
    · simp; rw [sizeLine_eq]; omega
    · intro h8 F8 N8
      k_steps
      have hmi : (mkn dr)[i]? = some (ctl x).toNat := by
        unfold mkn
        rw [List.getElem?_map, hxi]
        rfl
      have hnew : ∀ t1 t2 : Tok, StrsAre (us ++ [.str (S [(ctl x).toNat]) t1, .str (car (ctl x).toNat) t2]) (prs ((mkn dr).take (i + 1))) := by
        intro t1 t2
        rw [List.take_add_one, hmi]
        exact (prs_snoc ((mkn dr).take i) (ctl x).toNat) ▸ StrsAre.app hus (.cons (S [(ctl x).toNat]) _ (.cons (car (ctl x).toNat) _ .nil))
      exact InvEndN.intro (nx := [_, _]) F8 N8 ⟨List.Mem.tail _ (List.Mem.head _), ⟨rfl, rfl, rfl⟩, _, _, rfl, hnew _ _⟩ rfl
        (List.forall_mem_cons.mpr ⟨List.Mem.tail _ (List.Mem.head _), List.forall_mem_cons.mpr ⟨List.Mem.tail _ (List.Mem.tail _ (List.Mem.head _)), List.forall_mem_nil _⟩⟩)
        (fun p hp => List.mem_cons_of_mem _ (List.mem_cons_of_mem _ (List.mem_cons_of_mem _ hp)))
  rintro m₁ news₁ h tk hlm ⟨⟨h1, h2, h3⟩, us, kT, rfl, hus⟩ F N
  rw [three_of h1 h2 h3] at F
  have hml : (mkn dr).length ≤ 12 := by unfold mkn; rw [List.length_map]; exact hdl
  rw [show (dr.map ctl).length = (mkn dr).length by unfold mkn; rw [List.length_map, List.length_map], List.take_length] at hus
  clear hF1 hN1 hlt1 h1 h2 h3 hlm
  have hmvl := hM.length
  rw [List.length_map] at hmvl
  k_steps
  k_dflt (refine' For_invVF (by k_asm) ?zx ?zp ?_ ?zs ?zE; (case zx => exact rfl); (case zp => exact rfl); (case zs => intro _; rfl); (case zE => passes_own))
  k_steps
  refine iter_rangeLaw (n := dr.length + 1) [Str.ofString "doc", Str.ofString "first", Str.ofString "second", Str.ofString "due"] rfl (by assumption) ?_ ?_ (by k_asm) (by k_asm) ?_ ?_
  · rw [List.length_map]
    exact small_one (by decide) (by decide) (by omega) (by omega)
  · rw [List.length_map, rangeSize_nat]; omega
  · intro k t u h2 tk2 own hk0 hk1 F N
    obtain ⟨sz, rfl⟩ : ∃ sz : Nat, k = (sz : Int) := ⟨k.toNat, by omega⟩
    have hsz : sz ≤ dr.length := by omega
    clear hk0 hk1
    (try k_fold)
    k_steps
    k_dflt (refine' For_invVF (by k_asm) ?zx ?zp ?_ ?zs ?zE; (case zx => exact rfl); (case zp => exact rfl); (case zs => intro _; rfl); (case zE => passes_own))
    k_steps
    refine slice_strN_ns (s := ⟨_, _, _, _, _⟩) (by k_asm) (by k_asm) ?_ (hsz := by rw [S_length, sizeLine_eq]; omega)
    intro h5 t5 k5 F5 N5
    rw [show Txt.slice (S (dr.map sgc)) none (some (sz : Int)) = S ((dr.map sgc).take sz) from slice_ns _ (by rw [S_length, List.length_map]; exact hsz)]
    k_steps
    refine iter_lawL [Str.ofString "first", Str.ofString "second", Str.ofString "due"] rfl (List.Mem.head _) (by k_asm) (by k_asm) ?_ ?_
    · intro v u3 h6 tk6 own2 hv F N
      obtain ⟨d, td, rfl, hd12, hdlow⟩ : ∃ d td, v = .str (S d) td ∧ d.length ≤ 12 ∧ Low d := by
        rcases List.mem_cons.mp hv with rfl | hv
        · exact ⟨_, _, rfl, hpl, sgc_low dr⟩
        · rw [List.mem_singleton.mp hv]
          exact ⟨_, _, rfl, by rw [List.length_take]; omega, fun c hc => sgc_low dr c (List.mem_of_mem_take hc)⟩
      clear hv
      have hmM := mem_led (p := (dM, listOf mv.toArray mv.length)) N (List.mem_append.mpr (.inr (List.mem_cons_of_mem _ (List.mem_append.mpr (.inr (List.Mem.tail _ (List.Mem.head _)))))))
      have hmT := mem_led (p := (dT, listOf us.toArray kT)) N (List.mem_append.mpr (.inr (List.mem_cons_of_mem _ (List.mem_append.mpr (.inr (List.Mem.head _))))))
      have hMz : IntsAre mv (zs (mkn dr)) := (mkn_ints dr) ▸ hM
      have hps : ∀ c ∈ (mkn dr).take sz, c ∈ ctls := by
        intro c hc
        obtain ⟨x, _, rfl⟩ := List.mem_map.mp (List.mem_of_mem_take hc)
        exact ctl_ctls x
      have hsl : IntsAre (slicePick mv.toArray none (some (sz : Int)) none).toList (zs ((mkn dr).take sz)) := (zs_take (mkn dr) sz) ▸ kmk_upto hMz (Int.natCast_nonneg sz)
      have hmz : mv.toArray.size ≤ sizeLine := by rw [List.size_toArray, sizeLine_eq]; omega
      obtain ⟨WW, hWW⟩ : ∃ WW, led N = WW := ⟨_, rfl⟩
      have N2 := N
      rw [show own2 ++ _ = WW from hWW] at N2 hmM hmT ⊢
      clear hWW N
      (try k_fold)
      k_steps
      refine kmk_slice_ints (s := ⟨_, _, _, _, _⟩) (by k_asm) (by k_asm) (News.isList (by k_asm) hmM) IsPart.none (IsPart.int _ _) hMz hsl rfl ?_ (by with_unfolding_all rfl) (by intro _; with_unfolding_all rfl) hmz
      intro D1 w1 h7 F7 N7 l7 hI7 hC7 hL7
      clear hC7 hL7
      k_steps
      k_dflt (refine c_halves (x := S d) (ns := zs ((mkn dr).take sz)) (k := 0) (by rw [S_length]; omega) (low_all hdlow) (List.Mem.head _) hI7 (by k_asm) (by k_asm) (by k_asm) (by k_asm) (by k_asm) rfl (by decide) (by decide) ?_)
      intro D2 t8 u8 c8 h8 tk8 F8 N8 l8
      rw [S_toList] at N8
      obtain ⟨hl1, hl2⟩ := hal_low (zs ((mkn dr).take sz)) hdlow
      obtain ⟨hn1, hn2⟩ := hal_len (zs ((mkn dr).take sz)) d
      k_steps
      refine kmk_slice_ints (vs := mv) (s := ⟨_, _, _, _, _⟩) (by k_asm) (by k_asm) (News.isList (by k_asm) (by k_mem)) IsPart.none (IsPart.int _ _) hMz hsl rfl ?_ (by with_unfolding_all rfl) (by intro _; with_unfolding_all rfl) hmz
      intro Da wa ha Fa Na la hIa hCa hLa
      clear hCa hLa
      k_steps
      k_dflt (refine c_written (x := S (hal (zs ((mkn dr).take sz)) d).1) (ns := zs ((mkn dr).take sz)) (k := 0) (by rw [S_length]; omega) (low_all hl1) (List.Mem.head _) hIa (by k_asm) (by k_asm) (by k_asm) (by k_asm) (by k_asm) rfl (by decide) (by decide) ?_)
      intro tb hb tkb Fb Nb
      rw [S_toList]
      k_steps
      refine kmk_slice_ints (vs := mv) (s := ⟨_, _, _, _, _⟩) (by k_asm) (by k_asm) (News.isList (by k_asm) (by k_mem)) IsPart.none (IsPart.int _ _) hMz hsl rfl ?_ (by with_unfolding_all rfl) (by intro _; with_unfolding_all rfl) hmz
      intro Dc wc hc Fc Nc lc hIc hCc hLc
      clear hCc hLc
      k_steps
      k_dflt (refine c_written (x := S (hal (zs ((mkn dr).take sz)) d).2) (ns := zs ((mkn dr).take sz)) (k := 0) (by rw [S_length]; omega) (low_all hl2) (List.Mem.head _) hIc (by k_asm) (by k_asm) (by k_asm) (by k_asm) (by k_asm) rfl (by decide) (by decide) ?_)
      intro te he tke Fe Ne
      rw [S_toList]
      have husl := StrsAre.len hus
      rw [prs_len] at husl
      have hst : StrsAre (us.take (2 * sz)) (prs ((mkn dr).take sz)) := (prs_take (mkn dr) sz) ▸ StrsAre.tk (2 * sz) hus
      k_steps
      refine kms_slice_lit (s := ⟨_, _, _, _, _⟩) (its := us.toArray) (by k_asm) (by k_asm) (News.isList (by k_asm) (by k_mem)) IsPart.none (IsPart.int _ _) (pick_upto us sz) ?_ (by with_unfolding_all rfl) (by intro _; with_unfolding_all rfl) (by rw [List.size_toArray, sizeLine_eq]; omega)
      intro Dg hg2 Fg Ng lg
      k_steps
      refine star_seq (by k_asm) (by k_asm) (List.Mem.head _) rfl rfl (.inl rfl) rfl (by rw [List.size_toArray, List.length_take, sizeLine_eq]; omega) ?_
      intro hh2 Fh Nh
      k_steps
      rw [List.append_nil]
      k_dflt (refine c_replace (l := d) (ps := (mkn dr).take sz) (by omega) (by rw [List.length_take]; omega) hst (by k_asm) (by k_asm) (by k_asm) (by k_asm) (by k_asm) rfl (by decide) (by decide) ?_)
      intro ti hi2 tki Fi Ni
      rw [rep_wrl _ d hps]
      have hwl := wrl_len (zs ((mkn dr).take sz)) d
      k_steps
      k_dflt (refine c_splitdoc (l := wrl (zs ((mkn dr).take sz)) d) (by omega) (by k_asm) (by k_asm) (by k_asm) (by k_asm) (by k_asm) rfl (by decide) (by decide) ?_)
      intro Dj tj uj cj hj tkj Fj Nj lj
      rw [law_pure _ d hps hdlow] at Nj
      k_steps
      refine ne_pairs (News.isTup (by k_asm) (List.Mem.head _)) (News.isTup (by k_asm) (List.Mem.tail _ (List.Mem.tail _ (List.Mem.head _)))) (low_all (wrl_low _ hl1)) (low_all (wrl_low _ hl2)) (low_all (wrl_low _ hl1)) (low_all (wrl_low _ hl2)) (by rw [units_deeper, units_caller]; decide) ?_
      rw [same_pair]
      k_steps
    · intro u3 h6 tk6 F N
      k_steps
  · intro u h2 tk2 F N
    k_steps)
end Mine
end

theorem PySem.Challenge.cw_mq0056_01_holds : PySem.Challenge.rw_mq0056_01.Holds := by
  exact Mine.t1
