import PyProof.Rows.All
import Wide.All
import OpenK.AllK
import Wide.FinOn
import PySem.Challenge.RW_dn0319_01
open PySem PySem.W PyProof.Rows
set_option Elab.async false
set_option maxRecDepth 100000
set_option maxHeartbeats 8000000
section
namespace Mine
/-- a plain value of the laws -/
inductive Atom where
  | int (i : Int)
  | bool (b : Bool)
  | str (s : Str) (ok : PyData.strOk s = true)
  | none
def Atom.D : Atom → PyData
  | .int i => .int i
  | .bool b => .bool b
  | .str s _ => .str s
  | .none => .none
/-- a _ttinfo that may hold further ones -/
inductive Tree where
  | leaf (a : Atom)
  | node (x y z : Tree)
abbrev Row := List (Option Atom)
def flat : Tree → Row
  | .leaf a => [some a]
  | .node x y z => Option.none :: (flat x ++ (flat y ++ flat z))
def flats : List Tree → Row
  | [] => []
  | t :: r => flat t ++ flats r
def cellD : Option Atom → PyData
  | Option.none => .list []
  | some a => .list [a.D]
def rowD (r : Row) : PyData := .list (r.map cellD)
theorem flat_pos (t : Tree) : 0 < (flat t).length := by cases t <;> simp [flat]
theorem Atom.lay (a : Atom) : a.D.canLay0 = true := by
  cases a <;> simp [Atom.D, PyData.canLay0, *]
theorem Atom.depth0 (a : Atom) : a.D.depth = 0 := by cases a <;> simp [Atom.D, PyData.depth]
theorem Atom.sh (a : Atom) : SeqAt.shaped a.D = true := by simp [SeqAt.shaped, a.lay, a.depth0]
theorem cell_lay (c : Option Atom) : (cellD c).canLay0 = true := by
  cases c <;> simp [cellD, PyData.canLay0, PyData.canLayAll0, Atom.lay]
theorem cell_depth (c : Option Atom) : (cellD c).depth ≤ 1 := by
  cases c <;> simp [cellD, PyData.depth, PyData.depthAll, Atom.depth0]
theorem cell_sh (c : Option Atom) : SeqAt.shaped (cellD c) = true := by
  have := cell_depth c
  simp [SeqAt.shaped, cell_lay]; omega
def atomEq (a b : Atom) : Bool := PyData.eqv a.D b.D
def cellEq (c d : Option Atom) : Bool := PyData.eqv (cellD c) (cellD d)
theorem cellEq_nn : cellEq Option.none Option.none = true := by simp [cellEq, cellD, PyData.eqv, PyData.eqvAll]
theorem cellEq_ns (a : Atom) : cellEq Option.none (some a) = false := by simp [cellEq, cellD, PyData.eqv, PyData.eqvAll]
theorem cellEq_sn (a : Atom) : cellEq (some a) Option.none = false := by simp [cellEq, cellD, PyData.eqv, PyData.eqvAll]
theorem cellEq_ss (a b : Atom) : cellEq (some a) (some b) = atomEq a b := by simp [cellEq, cellD, PyData.eqv, PyData.eqvAll, atomEq]
theorem atomEq_symm (a b : Atom) : atomEq a b = atomEq b a := by
  cases a <;> cases b <;> simp only [atomEq, Atom.D, PyData.eqv] <;> exact Bool.beq_comm

/-- what is read as a row: a list of cells, each read -/
theorem reads_list {h : Heap} {v : Value} {ds : List PyData} {as : List Addr} (r : Reads h v (.list ds) as) :
    ∃ a vs bs, v = .ref a ∧ h.IsList a vs.toArray ∧ ReadsAll h vs ds bs := by
  cases r with
  | list h1 h2 h3 h4 => exact ⟨_, _, _, rfl, ⟨_, h1, h2, _, by simpa using h3⟩, h4⟩
theorem readsAll_get {h : Heap} : ∀ {vs : List Value} {ds : List PyData} {as : List Addr}, ReadsAll h vs ds as → ∀ (i : Nat) (d : PyData), ds[i]? = some d → ∃ v bs, vs[i]? = some v ∧ Reads h v d bs
  | _, _, _, .nil, i, d, e => by simp at e
  | _, _, _, .cons r rs, 0, d, e => by simp at e; subst e; exact ⟨_, _, rfl, r⟩
  | _, _, _, .cons r rs, i + 1, d, e => by simpa using readsAll_get rs i d (by simpa using e)
end Mine
namespace Mine
/-- the stack machine of _law_made: what the cells from a place on make -/
def stk : Row → List Tree
  | [] => []
  | some a :: r => .leaf a :: stk r
  | Option.none :: r => match stk r with
    | x :: y :: z :: q => .node x y z :: q
    | _ => []
theorem stk_flat : ∀ (t : Tree) (r : Row), stk (flat t ++ r) = t :: stk r := by
  intro t
  induction t with
  | leaf a => intro r; simp [flat, stk]
  | node x y z ix iy iz => intro r; simp only [flat, List.cons_append, List.append_assoc, stk, ix, iy, iz]
theorem stk_flats : ∀ ts : List Tree, stk (flats ts) = ts
  | [] => rfl
  | t :: r => by rw [flats, stk_flat, stk_flats r]
theorem flats_suffix : ∀ (pre suf : Row) (us : List Tree), flats us = pre ++ suf → ∃ ts, suf = flats ts
  | [], suf, us, h => ⟨us, by simpa using h.symm⟩
  | c :: pre, suf, [], h => by simp [flats] at h
  | c :: pre, suf, .leaf a :: us, h => by
    simp only [flats, flat, List.cons_append, List.nil_append, List.cons.injEq] at h
    exact flats_suffix pre suf us h.2
  | c :: pre, suf, .node x y z :: us, h => by
    simp only [flats, flat, List.cons_append, List.cons.injEq] at h
    refine flats_suffix pre suf (x :: y :: z :: us) ?_
    rw [← h.2]; simp [flats]
/-- behind a marker stand three trees -/
theorem stk_marker {t : Tree} {pre suf : Row} (h : flat t = pre ++ Option.none :: suf) : ∃ x y z q, stk suf = x :: y :: z :: q ∧ stk (Option.none :: suf) = .node x y z :: q := by
  obtain ⟨ts, e⟩ := flats_suffix pre (Option.none :: suf) [t] (by simpa [flats] using h)
  cases ts with
  | nil => simp [flats] at e
  | cons u us =>
    cases u with
    | leaf a => simp [flats, flat] at e
    | node x y z =>
      have e1 : suf = flats (x :: y :: z :: us) := by
        simp only [flats, flat, List.cons_append, List.cons.injEq] at e
        rw [e.2]; simp [flats]
      have e2 : stk suf = x :: y :: z :: us := by rw [e1, stk_flats]
      exact ⟨x, y, z, us, e2, by simp [stk, e2]⟩
theorem flat_whole (t : Tree) : stk (flat t) = [t] := by simpa [stk] using stk_flat t []
end Mine
namespace Mine
theorem stk_len : ∀ r : Row, (stk r).length ≤ r.length
  | [] => by simp [stk]
  | some a :: r => by simp [stk, stk_len r]
  | Option.none :: r => by
    have := stk_len r
    simp only [stk]
    split
    · rename_i h; rw [h] at this; simp only [List.length_cons] at this ⊢; omega
    · simp
end Mine
namespace Mine
theorem readsAll_len {h : Heap} : ∀ {vs : List Value} {ds : List PyData} {as : List Addr}, ReadsAll h vs ds as → vs.length = ds.length
  | _, _, _, .nil => rfl
  | _, _, _, .cons _ rs => by simp [readsAll_len rs]
end Mine
namespace Mine
/-- the first place where two rows differ tells: none: refused -/
def dueR : Row → Row → Option Bool
  | c :: r, d :: r' => if cellEq c d then dueR r r' else if c.isNone || d.isNone then Option.none else some false
  | _, _ => some true
def refusedS : Str := Str.ofString "refused"
/-- the answers as they are written -/
def dueD : Option Bool → PyData
  | Option.none => .list [.str refusedS, .str refusedS, .str refusedS]
  | some b => .list [.bool b, .bool b, .bool !b]
end Mine
namespace Mine
/-- none: refused; some b: the answer -/
def cmpT : Tree → Tree → Option Bool
  | .leaf a, .leaf b => some (atomEq a b)
  | .leaf _, .node _ _ _ => Option.none
  | .node _ _ _, .leaf _ => Option.none
  | .node x y z, .node x' y' z' => match cmpT x x' with
    | some true => (match cmpT y y' with
      | some true => cmpT z z'
      | r => r)
    | r => r
theorem cmpT_symm : ∀ t u : Tree, cmpT t u = cmpT u t := by
  intro t
  induction t with
  | leaf a =>
    intro u
    cases u with
    | leaf b => simp [cmpT, atomEq_symm a b]
    | node => simp [cmpT]
  | node x y z ix iy iz =>
    intro u
    cases u with
    | leaf b => simp [cmpT]
    | node x' y' z' => simp only [cmpT, ix x', iy y', iz z']
/-- the rows tell what the trees tell -/
theorem dueR_flat : ∀ (t u : Tree) (r r' : Row), dueR (flat t ++ r) (flat u ++ r') = match cmpT t u with
    | some true => dueR r r'
    | q => q := by
  intro t
  induction t with
  | leaf a =>
    intro u r r'
    cases u with
    | leaf b =>
      simp only [flat, List.cons_append, List.nil_append, dueR, cellEq_ss, cmpT]
      cases atomEq a b <;> simp
    | node x' y' z' => simp [flat, dueR, cellEq_sn, cmpT]
  | node x y z ix iy iz =>
    intro u r r'
    cases u with
    | leaf b => simp [flat, dueR, cellEq_ns, cmpT]
    | node x' y' z' =>
      simp only [flat, List.cons_append, List.append_assoc, dueR, cellEq_nn, if_true, ix, iy, iz, cmpT]
      cases cmpT x x' with
      | none => rfl
      | some b =>
        cases b with
        | false => rfl
        | true =>
          cases cmpT y y' with
          | none => rfl
          | some b => cases b <;> rfl
theorem dueR_trees (t u : Tree) : dueR (flat t) (flat u) = cmpT t u := by
  have := dueR_flat t u [] []
  simp only [List.append_nil] at this
  rw [this]
  cases cmpT t u with
  | none => rfl
  | some b => cases b <;> rfl
end Mine
namespace Mine
def Tree.isNode : Tree → Bool
  | .leaf _ => false
  | .node _ _ _ => true
end Mine
namespace Mine
theorem nat_fmod (a b : Nat) : Int.fmod (a : Int) (b : Int) = ((a % b : Nat) : Int) := by
  rw [Int.fmod_eq_emod_of_nonneg _ (by omega)]; simp
theorem nat_fdiv (a b : Nat) : Int.fdiv (a : Int) (b : Int) = ((a / b : Nat) : Int) := by
  rw [Int.fdiv_eq_ediv_of_nonneg _ (by omega)]; simp
end Mine
namespace Mine
/-- a place in a row is the head of a part; another part may stand for it -/
theorem tree_split : ∀ (t : Tree) (p : Nat), p < (flat t).length → ∃ (pre : Row) (sub : Tree) (post : Row), flat t = pre ++ (flat sub ++ post) ∧ pre.length = p ∧ ∀ u : Tree, ∃ t' : Tree, flat t' = pre ++ (flat u ++ post) := by
  intro t
  induction t with
  | leaf a =>
    intro p hp
    have : p = 0 := by simp [flat] at hp; omega
    subst this
    exact ⟨[], .leaf a, [], by simp, rfl, fun u => ⟨u, by simp⟩⟩
  | node x y z ix iy iz =>
    intro p hp
    cases p with
    | zero => exact ⟨[], .node x y z, [], by simp, rfl, fun u => ⟨u, by simp⟩⟩
    | succ q =>
      simp only [flat, List.length_cons, List.length_append] at hp
      by_cases h1 : q < (flat x).length
      · obtain ⟨pre, sub, post, e, hl, hu⟩ := ix q h1
        refine ⟨Option.none :: pre, sub, post ++ (flat y ++ flat z), by simp [flat, e], by simp [hl], fun u => ?_⟩
        obtain ⟨t', ht'⟩ := hu u
        exact ⟨.node t' y z, by simp [flat, ht']⟩
      · by_cases h2 : q - (flat x).length < (flat y).length
        · obtain ⟨pre, sub, post, e, hl, hu⟩ := iy _ h2
          refine ⟨Option.none :: (flat x ++ pre), sub, post ++ flat z, by simp [flat, e], by simp [hl]; omega, fun u => ?_⟩
          obtain ⟨t', ht'⟩ := hu u
          exact ⟨.node x t' z, by simp [flat, ht']⟩
        · obtain ⟨pre, sub, post, e, hl, hu⟩ := iz (q - (flat x).length - (flat y).length) (by omega)
          refine ⟨Option.none :: (flat x ++ (flat y ++ pre)), sub, post, by simp [flat, e], by simp [hl]; omega, fun u => ?_⟩
          obtain ⟨t', ht'⟩ := hu u
          exact ⟨.node x y t', by simp [flat, ht']⟩
end Mine
namespace Mine
def Tree.size : Tree → Nat
  | .leaf _ => 0
  | .node x y z => x.size + y.size + z.size + 1
theorem flat_len : ∀ t : Tree, (flat t).length = 3 * t.size + 1 := by
  intro t
  induction t with
  | leaf a => rfl
  | node x y z ix iy iz => simp only [flat, List.length_cons, List.length_append, ix, iy, iz, Tree.size]; omega
end Mine
end
section
namespace Mine
/-- what a turn leaves: the iterator as it was, the ledger of the next turn -/
def TurnPost (h₀ : Heap) (L I : Addr) (it : Obj) (J : (Str → Option Value) → List (Addr × Obj) → Prop) (s₁ : Shared) (Q : Flow → Shared → Prop) (f : Flow) (s₂ : Shared) : Prop :=
  match f with
  | .ret v => Q (.ret v) s₂
  | .brk => Q .next s₂
  | _ => ∃ h' tk m' nw', s₂ = { s₁ with heap := h', toks := tk } ∧ Fr h₀ L h' m' ∧ News h₀ L h' ((I, it) :: nw') ∧ (∀ p ∈ nw', p.1 ≠ I) ∧ J m' nw'
theorem TurnPost.go {h₀ h' : Heap} {L I : Addr} {it : Obj} {J : (Str → Option Value) → List (Addr × Obj) → Prop} {s₁ : Shared} {Q : Flow → Shared → Prop} {m' : Str → Option Value} {tk : Nat} (nw' : List (Addr × Obj))
    (F : Fr h₀ L h' m') (N : News h₀ L h' ((I, it) :: nw')) (off : ∀ p ∈ nw', p.1 ≠ I) (j : J m' nw') : TurnPost h₀ L I it J s₁ Q .next { s₁ with heap := h', toks := tk } := ⟨h', tk, m', nw', rfl, F, N, off, j⟩
theorem loop_gen {prog : Program} {w : World} {A : Around} {E : Value → Shared → Prop} {s : Shared} {env : Env} {h₀ : Heap} {x : Str} {body : List Stmt} {Q : Flow → Shared → Prop}
    {I : Addr} {fp : List Addr} {n : Nat} {P : Nat → Value → Prop} {St : Nat → Heap → Prop} {m₀ : Str → Option Value} {news : List (Addr × Obj)} {it0 : Obj}
    (W : Walks prog w A I fp [I] n P St) (hfp : ∀ b ∈ fp, b = I ∨ ∃ o, h₀.get? b = some o) (hIfp : I ∈ fp) (hlive : ∀ i h, St i h → ∃ o, h.get? I = some o) (hst : St 0 s.heap) (F : Fr h₀ env.locals s.heap m₀)
    (N : News h₀ env.locals s.heap ((I, it0) :: news)) (hoff : ∀ p ∈ news, p.1 ≠ I) (J : Nat → (Str → Option Value) → List (Addr × Obj) → Prop) (h0 : J 0 m₀ news)
    (turn : ∀ i v m₁ nw it h tk, i < n → P i v → J i m₁ nw → (∀ p ∈ nw, p.1 ≠ I) → Fr h₀ env.locals h (fun y => if y = x then some v else m₁ y) → News h₀ env.locals h ((I, it) :: nw) →
      wpAny (model prog w) A (execs body env) (TurnPost h₀ env.locals I it (J (i + 1)) { s with heap := h, toks := tk } Q) E { s with heap := h, toks := tk })
    (done : ∀ m₁ nw h tk, J n m₁ nw → Fr h₀ env.locals h m₁ → News h₀ env.locals h nw → Q .next { s with heap := h, toks := tk }) :
    LoopAtV prog w A h₀ env x body Q E (.ref I) s := by
  have hI := N _ (List.mem_cons_self ..)
  have hLf : env.locals ∉ fp := by
    intro hm
    rcases hfp _ hm with e | ⟨o, e⟩
    · exact hI.2.1 e.symm
    · exact absurd (Nat.lt_of_lt_of_le (Heap.lt_size e) F.above) (Nat.lt_irrefl _)
  refine ⟨I, fp, [I], n, P, St, m₀, news, J, rfl, W, hLf, ?_, ?_, hst, F, fun p hp => N p (List.mem_cons_of_mem _ hp), h0, ?_, ?_⟩
  · intro b hb; rw [List.mem_singleton.mp hb]; exact hI.2.2
  · intro p hp hb; exact hoff p hp (List.mem_singleton.mp hb)
  · rintro i v m₁ nw s₁ own ⟨h, tk, rfl⟩ hi hP hJ hofs hown hget hall hst₁ F₁ N₁
    obtain ⟨it, hit⟩ := hlive _ _ hst₁
    have hmemI := hall I hIfp hI.2.2 _ hit
    have hofs' : ∀ p ∈ nw, p.1 ≠ I := fun p hp e => hofs p hp (List.mem_singleton.mpr e)
    have own_eq : ∀ p ∈ own, p = (I, it) := by
      intro p hp
      have hp1 : p.1 = I := by
        rcases hfp _ (hown p hp) with e | ⟨o, e⟩
        · exact e
        · have := (N₁ p (List.mem_append_left _ hp)).2.2; rw [e] at this; cases this
      have := hget p hp
      rw [hp1, hit] at this
      obtain ⟨p1, p2⟩ := p
      simp only at hp1 this
      subst hp1
      rw [Option.some.inj this]
    have N₂ : News h₀ env.locals h ((I, it) :: nw) := by
      intro p hp
      rcases List.mem_cons.mp hp with rfl | hp
      · exact N₁ _ (List.mem_append_left _ hmemI)
      · exact N₁ _ (List.mem_append_right _ hp)
    refine wpAny_mono (turn i v m₁ nw it h tk hi hP hJ hofs' F₁ N₂) (fun f s₂ p => ?_) fun _ _ e => e
    have fin : (∃ h' tk' m' nw', s₂ = { ({ s with heap := h, toks := tk } : Shared) with heap := h', toks := tk' } ∧ Fr h₀ env.locals h' m' ∧ News h₀ env.locals h' ((I, it) :: nw') ∧ (∀ p ∈ nw', p.1 ≠ I) ∧ J (i + 1) m' nw') →
        LoopStepU h₀ env.locals [I] own (J (i + 1)) { s with heap := h, toks := tk } .next s₂ := by
      rintro ⟨h', tk', m', nw', e, F', N', ho, hj⟩
      refine ⟨rfl, h', tk', m', nw', e, F', fun p hp => ?_, fun p hp hb => ho p hp (List.mem_singleton.mp hb), hj⟩
      rcases List.mem_append.mp hp with hp | hp
      · rw [own_eq p hp]; exact N' _ (List.mem_cons_self ..)
      · exact N' _ (List.mem_cons_of_mem _ hp)
    cases f with
    | ret v => exact .ret p
    | brk => exact .brk p
    | next => exact .next (fin p)
    | cont => exact .cont (fin p)
  · intro h' tk m' nw F' N' _ hJ
    exact done m' nw h' tk hJ F' N'
/-- a loop over reversed(xs), xs a list of the base -/
theorem loop_rev {prog : Program} {w : World} {A : Around} {E : Value → Shared → Prop} {s : Shared} {env : Env} {h₀ : Heap} {x : Str} {body : List Stmt} {Q : Flow → Shared → Prop}
    {I ax : Addr} {vs : List Value} {m₀ : Str → Option Value} {news : List (Addr × Obj)} (hh : A.handled = none) (hl : h₀.IsList ax vs.toArray) (F : Fr h₀ env.locals s.heap m₀)
    (N : News h₀ env.locals s.heap ((I, revObj ax ((vs.length : Int) - 1)) :: news)) (hoff : ∀ p ∈ news, p.1 ≠ I) (J : Nat → (Str → Option Value) → List (Addr × Obj) → Prop) (h0 : J 0 m₀ news)
    (turn : ∀ i v m₁ nw it h tk, i < vs.length → vs[vs.length - 1 - i]? = some v → J i m₁ nw → (∀ p ∈ nw, p.1 ≠ I) → Fr h₀ env.locals h (fun y => if y = x then some v else m₁ y) → News h₀ env.locals h ((I, it) :: nw) →
      wpAny (model prog w) A (execs body env) (TurnPost h₀ env.locals I it (J (i + 1)) { s with heap := h, toks := tk } Q) E { s with heap := h, toks := tk })
    (done : ∀ m₁ nw h tk, J vs.length m₁ nw → Fr h₀ env.locals h m₁ → News h₀ env.locals h nw → Q .next { s with heap := h, toks := tk }) :
    wpAny (model prog w) A (pyIter (.ref I)) (fun it s₂ => LoopAtV prog w A h₀ env x body Q E it s₂) E s := by
  have hI := N _ (List.mem_cons_self ..)
  obtain ⟨ol, hol, _⟩ := id hl
  have hne : ax ≠ I := fun e => by have := hI.2.2; rw [← e, hol] at this; cases this
  have hit : s.heap.IsRevIter I ax ((vs.length : Int) - 1) := ⟨_, hI.1, rfl, rfl⟩
  refine wpAny_pyIter_revIter hit ?_
  have W := Walks.listRev (prog := prog) (w := w) hh I ax hne vs.toArray
  have hlen : vs.toArray.size = vs.length := by simp
  rw [hlen] at W
  refine loop_gen W (fun b hb => ?_) (List.mem_cons_self ..) (fun i h st => ?_) ⟨Nat.zero_le _, ?_, hl.at fun o e => F.keep ax o e⟩ F N hoff J h0 (fun i v m₁ nw it h tk hi hP => turn i v m₁ nw it h tk hi (by simpa using hP)) done
  · rcases List.mem_cons.mp hb with e | hb
    · exact .inl e
    · rw [List.mem_singleton.mp hb]; exact .inr ⟨_, hol⟩
  · obtain ⟨o, e, _⟩ := st.2.1; exact ⟨o, e⟩
  · have e : (vs.length : Int) - 1 - ((0 : Nat) : Int) = (vs.length : Int) - 1 := by omega
    rw [e]; exact hit
theorem news_sub {h₀ h : Heap} {L : Addr} {l l' : List (Addr × Obj)} (N : News h₀ L h l) (k : ∀ p ∈ l', p ∈ l) : News h₀ L h l' := fun p hp => N p (k p hp)
theorem news_rot1 {h₀ h : Heap} {L : Addr} {e i a : Addr × Obj} {old : List (Addr × Obj)} (N : News h₀ L h (e :: i :: a :: old)) : News h₀ L h (i :: a :: e :: old) :=
  news_sub N (by intro p hp; simp only [List.mem_cons] at hp ⊢; grind)
theorem news_rot3 {h₀ h : Heap} {L : Addr} {e f g i a : Addr × Obj} {old : List (Addr × Obj)} (N : News h₀ L h (e :: f :: g :: i :: a :: old)) : News h₀ L h (i :: a :: e :: f :: g :: old) :=
  news_sub N (by intro p hp; simp only [List.mem_cons] at hp ⊢; grind)
/-- the length of a list -/
theorem len_at {prog : Program} {w : World} {A : Around} {E : Value → Shared → Prop} {s : Shared} {l : Addr} {vs : List Value} {Q : Value → Shared → Prop} (hl : s.heap.IsList l vs.toArray) (hfit : vs.length < 1000000)
    (h : Q (.int (vs.length : Int) (s.toks + 1)) { s with toks := s.toks + 1 + 1 }) : wpAny (model prog w) A (call (.builtin "len") [.ref l]) Q E s := by
  have e : ((vs.toArray.size : Nat) : Int) = (vs.length : Int) := by simp
  refine len_list hl (by rw [e]; omega) ?_
  rw [e]; exact h
/-- a loop over range(n) -/
theorem loop_range {prog : Program} {w : World} {A : Around} {E : Value → Shared → Prop} {s : Shared} {env : Env} {h₀ : Heap} {x : Str} {body : List Stmt} {Q : Flow → Shared → Prop}
    {r : Addr} {n : Nat} {b : Int} {t u v : Tok} {m₀ : Str → Option Value} {news : List (Addr × Obj)} (hh : A.handled = none) (hr : IsRange s.heap r 0 b 1 t u v) (hb : b = (n : Int)) (hn : n < 1000000) (F : Fr h₀ env.locals s.heap m₀)
    (N : News h₀ env.locals s.heap news) (J : Nat → (Str → Option Value) → List (Addr × Obj) → Prop) (h0 : J 0 m₀ news)
    (turn : ∀ (i : Nat) tk₁ m₁ nw I it h tk, i < n → J i m₁ nw → (∀ p ∈ nw, p.1 ≠ I) → Fr h₀ env.locals h (fun y => if y = x then some (.int (i : Int) tk₁) else m₁ y) → News h₀ env.locals h ((I, it) :: nw) →
      wpAny (model prog w) A (execs body env) (TurnPost h₀ env.locals I it (J (i + 1)) { s with heap := h, toks := tk } Q) E { s with heap := h, toks := tk })
    (done : ∀ m₁ nw h tk, J n m₁ nw → Fr h₀ env.locals h m₁ → News h₀ env.locals h nw → Q .next { s with heap := h, toks := tk }) :
    wpAny (model prog w) A (pyIter (.ref r)) (fun it s₂ => LoopAtV prog w A h₀ env x body Q E it s₂) E s := by
  subst hb
  have hsz : Builtin.Range.rangeSize 0 (n : Int) 1 = (n : Int) := by
    unfold Builtin.Range.rangeSize; simp; omega
  refine wpAny_pyIter_range hr (small_one (by omega) (by omega) (by omega) (by omega)) ?_
  rw [hsz]
  have W := PyProof.Rows.LCg.range_walks (prog := prog) (w := w) (I := s.heap.objs.size) hh 0 n
  refine loop_gen (it0 := { cls := .type "range_iterator", data := .fields #[rawInt 0, rawInt (n : Int), rawInt 1] }) W (fun b hb => .inl (List.mem_singleton.mp hb)) (List.mem_cons_self ..) (fun i h st => ⟨_, st⟩) ?_ (F.push _) (News.push F N _) (fun p hp => Nat.ne_of_lt (Heap.lt_size (N p hp).1)) J h0
    (fun i v m₁ nw it h tk hi hP => ?_) done
  · show IsRangeIter _ _ _ _ _
    simpa using Heap.get?_push_size _ rfl
  · obtain ⟨t', rfl⟩ := hP
    have e : (0 : Int) + (i : Int) = (i : Int) := by omega
    rw [e]
    exact turn i t' m₁ nw _ it h tk hi
end Mine
end
section
namespace Mine
/-- as TurnPost, the base may change -/
def TurnB (L I : Addr) (it : Obj) (J : Heap → (Str → Option Value) → List (Addr × Obj) → Prop) (s₁ : Shared) (Q : Flow → Shared → Prop) (f : Flow) (s₂ : Shared) : Prop :=
  match f with
  | .ret v => Q (.ret v) s₂
  | .brk => Q .next s₂
  | _ => ∃ g' h' tk m' nw', s₂ = { s₁ with heap := h', toks := tk } ∧ Fr g' L h' m' ∧ News g' L h' ((I, it) :: nw') ∧ (∀ p ∈ nw', p.1 ≠ I) ∧ J g' m' nw'
theorem TurnB.go {g' h' : Heap} {L I : Addr} {it : Obj} {J : Heap → (Str → Option Value) → List (Addr × Obj) → Prop} {s₁ : Shared} {Q : Flow → Shared → Prop} {m' : Str → Option Value} {tk : Nat} (nw' : List (Addr × Obj))
    (F : Fr g' L h' m') (N : News g' L h' ((I, it) :: nw')) (off : ∀ p ∈ nw', p.1 ≠ I) (j : J g' m' nw') : TurnB L I it J s₁ Q .next { s₁ with heap := h', toks := tk } := ⟨g', h', tk, m', nw', rfl, F, N, off, j⟩
theorem rangeB {prog : Program} {w : World} {A : Around} {s : Shared} {env : Env} {x : Str} {px : Pos} {body : List Stmt} {Q : Flow → Shared → Prop}
    {g : Heap} {r : Addr} {n : Nat} {t u v : Tok} {m₀ : Str → Option Value} {news : List (Addr × Obj)} (hh : A.handled = none) (hr : IsRange s.heap r 0 (n : Int) 1 t u v) (hn : n < 1000000)
    (hx : env.kindOf x = some .local) (hp : (env.scope.kind == .class || (env.scope.kind == .module && env.locals != env.globals)) = false)
    (F : Fr g env.locals s.heap m₀) (N : News g env.locals s.heap news) (J : Nat → Heap → (Str → Option Value) → List (Addr × Obj) → Prop) (h0 : J 0 g m₀ news)
    (turn : ∀ (i : Nat) tk₁ g₁ m₁ nw I it h tk, i < n → J i g₁ m₁ nw → (∀ p ∈ nw, p.1 ≠ I) → Fr g₁ env.locals h (fun y => if y = x then some (.int (i : Int) tk₁) else m₁ y) → News g₁ env.locals h ((I, it) :: nw) →
      wpAny (model prog w) A (execs body env) (TurnB env.locals I it (J (i + 1)) { s with heap := h, toks := tk } Q) (fun _ _ => False) { s with heap := h, toks := tk })
    (done : ∀ g₁ m₁ nw h tk, J n g₁ m₁ nw → Fr g₁ env.locals h m₁ → News g₁ env.locals h nw → Q .next { s with heap := h, toks := tk }) :
    wpAny (model prog w) A (pyIter (.ref r)) (fun it s₂ => codeAny (model prog w) A (.forLoop (.Name x px) it body [] env)
      (fun r s' => match r with | .ok f => Q f s' | .error e => cameBackBy (model prog w) A env (fun _ _ => False) e s') s₂) (fun _ _ => False) s := by
  have hsz : Builtin.Range.rangeSize 0 (n : Int) 1 = (n : Int) := by
    unfold Builtin.Range.rangeSize; simp; omega
  refine wpAny_pyIter_range hr (small_one (by omega) (by omega) (by omega) (by omega)) ?_
  rw [hsz]
  have W := PyProof.Rows.LCg.range_walks (prog := prog) (w := w) (I := s.heap.objs.size) hh 0 n
  have N0 := News.push F N ({ cls := .type "range_iterator", data := .fields #[rawInt 0, rawInt (n : Int), rawInt 1] } : Obj)
  have F0 := F.push ({ cls := .type "range_iterator", data := .fields #[rawInt 0, rawInt (n : Int), rawInt 1] } : Obj)
  have hI := N0 _ (List.mem_cons_self ..)
  have e0 : ∀ i : Nat, (0 : Int) + (i : Int) = (i : Int) := fun i => by omega
  have noted : ∀ {α : Type} {t : Sem α} {Q' : α → Shared → Prop} {s' : Shared}, wpAny (model prog w) A t Q' (fun _ _ => False) s' →
      wpAny (model prog w) A t Q' (notedBy (model prog w) A env fun e s' => cameBackBy (model prog w) A env (fun _ _ => False) e s') s' :=
    fun h => wpAny_mono h (fun _ _ x => x) fun _ _ x => x.elim
  refine codeAny_forLoop (fun k s' => ∃ h' tk g' m' nw' i, s' = { s with heap := h', toks := tk } ∧ IsRangeIter h' s.heap.objs.size (0 + (i : Nat) * 1) ((n : Int) - (i : Nat)) 1 ∧ Fr g' env.locals h' m' ∧ News g' env.locals h' nw' ∧ (∀ p ∈ nw', p.1 ≠ s.heap.objs.size) ∧
      g'.get? s.heap.objs.size = none ∧ J i g' m' nw' ∧ i ≤ n ∧ k = n + 1 - i) ?_ (n + 1)
    ⟨_, s.toks, g, m₀, news, 0, rfl, by show IsRangeIter _ _ _ _ _; simpa using Heap.get?_push_size _ rfl, F0, fun p hp => N0 p (List.mem_cons_of_mem _ hp), fun p hp => Nat.ne_of_lt (Heap.lt_size (N p hp).1), hI.2.2, h0, Nat.zero_le _, rfl⟩
  rintro k s' ⟨h', tk, g', m', nw', i, rfl, hst', F', N', hnw', hg', hJ, hi, rfl⟩
  have hIL : s.heap.objs.size ≠ env.locals := hI.2.1
  have next : ∀ h₁ : Heap, (∀ b o, b ∉ [s.heap.objs.size] → h'.get? b = some o → h₁.get? b = some o) → Fr g' env.locals h₁ m' ∧ News g' env.locals h₁ nw' := fun h₁ hk₁ =>
    ⟨⟨F'.ns.at' fun o e => hk₁ _ o (fun q => hIL (List.mem_singleton.mp q).symm) e, fun b o e => hk₁ b o (fun q => by rw [List.mem_singleton.mp q, hg'] at e; cases e) (F'.keep b o e), F'.above⟩,
      fun p hp => ⟨hk₁ _ _ (fun q => hnw' p hp (List.mem_singleton.mp q)) (N' p hp).1, (N' p hp).2⟩⟩
  by_cases hlt : i < n
  · refine W.item i _ _ _ hlt hst' fun v h₁ tk₁ hP hst₁ hk₁ => ?_
    obtain ⟨F₁, N₁⟩ := next h₁ hk₁
    obtain ⟨t', rfl⟩ := hP
    rw [e0 i]
    refine noted (wpAny_assign_Name (wpAny_storeName_local hx F₁.ns (fun h₂ hn₂ hs₂ => ?_) hp))
    have F₂ := F₁.set hn₂ hs₂
    have hit₂ : IsRangeIter h₂ s.heap.objs.size (0 + ((i + 1 : Nat)) * 1) ((n : Int) - ((i + 1 : Nat))) 1 := (hs₂.2 _ hIL).trans hst₁
    have N₂ : News g' env.locals h₂ ((s.heap.objs.size, _) :: nw') := fun p hp => by
      rcases List.mem_cons.mp hp with rfl | hp
      · exact ⟨hit₂, hIL, hg'⟩
      · exact (N₁.set hs₂) p hp
    refine noted (wpAny_mono (turn i t' g' m' nw' _ _ h₂ _ hlt hJ hnw' F₂ N₂) (fun f s₃ h₃ => ?_) fun _ _ e => e)
    cases f with
    | ret v => exact h₃
    | brk => exact h₃
    | cont =>
      obtain ⟨g₃, h₃', tk₃, m₂, news₂, rfl, F₃, N₃, ha₃, hJ₃⟩ := h₃
      have hI₃ := N₃ _ (List.mem_cons_self ..)
      exact ⟨n + 1 - (i + 1), by omega, h₃', tk₃, g₃, m₂, news₂, i + 1, rfl, hI₃.1, F₃, fun p hp => N₃ p (List.mem_cons_of_mem _ hp), ha₃, hI₃.2.2, hJ₃, hlt, rfl⟩
    | next =>
      obtain ⟨g₃, h₃', tk₃, m₂, news₂, rfl, F₃, N₃, ha₃, hJ₃⟩ := h₃
      have hI₃ := N₃ _ (List.mem_cons_self ..)
      exact ⟨n + 1 - (i + 1), by omega, h₃', tk₃, g₃, m₂, news₂, i + 1, rfl, hI₃.1, F₃, fun p hp => N₃ p (List.mem_cons_of_mem _ hp), ha₃, hI₃.2.2, hJ₃, hlt, rfl⟩
  · have hin : i = n := by omega
    subst hin
    refine W.done _ _ _ hst' fun h₁ tk₁ hk₁ => noted (wpAny_execs_nil ?_)
    obtain ⟨F₁, N₁⟩ := next h₁ hk₁
    exact done g' m' nw' h₁ tk₁ hJ F₁ N₁
end Mine
end
section
namespace Mine
open_top hd for PySem.Challenge.rw_dn0319_01
end Mine
end
section
namespace Mine
/-- the written part, the view, the program -/
abbrev PG : Program := PySem.Challenge.rw_dn0319_01.row.toRowW.prog
abbrev TopAt (mean : ExcName → Option Value) (mg mb : Str → Option Value) (h : Heap) : Prop :=
  Top hd.view_39 (looseW hd.view_39 [Str.ofString "_ttinfo"]) mean mg mb h

theorem enter0 {prog : Program} {w : World} {A : Around} {s : Shared} {K : Frag}
    {R : Result → Shared → Prop} {name qual : Str} {params : Arguments} {body : List Stmt} {scope : Scope} {dV kV doc pm cdv ct oc : Value} {an od : Option Addr} {osl : Array (Option Value)} {f : Addr} {args : Args} {binds : List (Str × Value)}
    (X : K.In s.heap) (hlim : s.heap.NoLimit)
    (ho : K.lookup f = some ⟨oc, od, .func (fnOf name qual params body scope dV kV doc pm an cdv ct), osl⟩) (hcd : codeIn K cdv qual = true) (hroom : A.depth < recursionLimit)
    (hbind : BindsTo s (fnOf name qual params body scope dV kV doc pm an cdv ct) args binds) (hloc : ∀ y ∈ binds, scope.names.lookup y.1 = some .local)
    (h : ∀ h₁ L', Fr s.heap L' h₁ (fun y => binds.reverse.lookup y) → News s.heap L' h₁ [] →
      wpAny (model prog w) (A.deeper (envOf qual scope L' f cdv)) (execs body (envOf qual scope L' f cdv))
        (fun fl s' => R (.ok (.ret (match fl with | .ret v => v | _ => .none))) s')
        (fun e s' => wpAny (model prog w) (A.deeper (envOf qual scope L' f cdv)) (leaving (envOf qual scope L' f cdv) e) (fun _ s'' => R (.error e) s'') (fun e' s'' => R (.error e') s'') s')
        { s with heap := h₁, toks := s.toks + binds.length })
    (hco : scope.isCoroutine = false := by rfl) (hgen : scope.isGenerator = false := by rfl) (hk : scope.kind = .function := by rfl)
    (hcell : ∀ x ∈ scope.names, x.2 ≠ .cell := by decide) : codeAny (model prog w) A (.call (.ref f) args) R s := by
  refine codeAny_call_def (fd := fnOf name qual params body scope dV kV doc pm an cdv ct) (body := body) (binds := binds) hroom (X _ _ ho) rfl hlim (codeRec_of X hcd) rfl hbind hcell hloc (fun h₁ hns hk₁ => ?_) hco hgen hk
  exact h h₁ _ ⟨hns, hk₁, Nat.le_refl _⟩ News.nil

def known : List (Str × Value) → (Str → Option Value) → Str → Option Value
  | [], m => m
  | p :: r, m => fun z => if z = p.1 then some p.2 else known r m z
theorem known_eq : ∀ (l : List (Str × Value)) (m : Str → Option Value), (∀ p ∈ l, m p.1 = some p.2) → known l m = m
  | [], _, _ => rfl
  | p :: r, m, h => by
    funext z
    by_cases hz : z = p.1
    · subst hz; simp only [known, if_pos]; exact (h p (.head _)).symm
    · simp only [known, if_neg hz]; rw [known_eq r m fun q hq => h q (.tail _ hq)]
theorem fr_known {h₀ h : Heap} {L : Addr} {m : Str → Option Value} (l : List (Str × Value)) (F : Fr h₀ L h m) (e : ∀ p ∈ l, m p.1 = some p.2) :
    Fr h₀ L h (known l m) := by rw [known_eq l m e]; exact F
def HasInt (m : Str → Option Value) (x : Str) (i : Int) : Prop := ∃ t, m x = some (.int i t)
theorem HasInt.of {m : Str → Option Value} {x : Str} {i j : Int} {t : Tok} (e : m x = some (.int i t)) (h : i = j) : HasInt m x j := ⟨t, h ▸ e⟩
/-- an item of a list at a place in it -/
theorem item_at {prog : Program} {w : World} {A : Around} {E : Value → Shared → Prop} {s : Shared} {value slice : PySem.Expr} {l : Addr} {vs : List Value} {k : Int} {u : Tok} {v : Value} {Q : Value → Shared → Prop}
    (hl : s.heap.IsList l vs.toArray) (h0 : 0 ≤ k) (hhi : k < 2 ^ 63) (hx : vs[k.toNat]? = some v) (h : Q v s)
    (hs : subscripted slice false (.ref l) (.int k u) = operate [.ref l, .int k u] (getItem (.ref l) (.int k u)) := by with_unfolding_all rfl) :
    wpAny (model prog w) A (subscriptTail value slice (.ref l) (.int k u)) Q E s :=
  tail_any hl.typeIs slot_list_getitem.lookup (wpAny_getItem_list hl h0 hhi (by simpa using hx) h) hs
theorem kept_list {h h' : Heap} {l : Addr} {items : Array Value} (hl : h.IsList l items) (hk : ∀ b o, h.get? b = some o → h'.get? b = some o) : h'.IsList l items := hl.at fun o e => hk l o e
theorem fr_cut {h₀ h : Heap} {L : Addr} {m : Str → Option Value} (l : List (Str × Value)) (F : Fr h₀ L h m) (e : ∀ p ∈ l, m p.1 = some p.2) :
    ∃ m', Fr h₀ L h (known l m') := ⟨m, fr_known l F e⟩
theorem fr_int {h₀ h : Heap} {L : Addr} {m : Str → Option Value} {x : Str} {i j : Int} {t : Tok} (_F : Fr h₀ L h m) (e : m x = some (.int i t)) (h : i = j) : ∃ t, m x = some (.int j t) := ⟨t, h ▸ e⟩
end Mine
end
section
namespace Mine
/-- an instance of _ttinfo: its three parts -/
abbrev nodeObj (dx : Addr) (a b c : Value) : Obj := { cls := .ref 47, dict := some dx, data := .plain, slots := #[some b, some c, some a] }
inductive IsAtom : Value → Atom → Prop where
  | int (i : Int) (t : Tok) : IsAtom (.int i t) (.int i)
  | bool (b : Bool) : IsAtom (.bool b) (.bool b)
  | str (s : Str) (t : Tok) (ok : PyData.strOk s = true) : IsAtom (.str s t) (.str s ok)
  | none : IsAtom .none .none
inductive TreeP (G : Addr → Obj → Prop) : Value → Tree → Prop where
  | leaf {v : Value} {a : Atom} : IsAtom v a → TreeP G v (.leaf a)
  | node {x dx : Addr} {a b c : Value} {t1 t2 t3 : Tree} : G x (nodeObj dx a b c) → G dx (dictOf [] 0) → TreeP G a t1 → TreeP G b t2 → TreeP G c t3 → TreeP G (.ref x) (.node t1 t2 t3)
abbrev TreeH (h : Heap) := TreeP (fun a o => h.get? a = some o)
theorem TreeP.mono {G G' : Addr → Obj → Prop} {v : Value} {t : Tree} (h : TreeP G v t) (k : ∀ a o, G a o → G' a o) : TreeP G' v t := by
  induction h with
  | leaf e => exact .leaf e
  | node h1 h2 _ _ _ i1 i2 i3 => exact .node (k _ _ h1) (k _ _ h2) i1 i2 i3
theorem IsAtom.reads {v : Value} {a : Atom} (e : IsAtom v a) (h : Heap) : Reads h v a.D [] := by
  cases e
  · exact .int _ _
  · exact .bool _
  · exact .str _ _
  · exact .none
def Fly (base : Heap) (outer : List Env) (e : Addr) (h : Heap) : Prop := ∃ a0, Heap.FlyingW base outer e (.type "AttributeError") a0 h
abbrev ar (dp un : Nat) (gd : Option (List Code)) (outer : List Env) : Around := { handled := none, depth := dp, frames := some outer, guards := gd, units := un }
/-- what a comparison of two trees does -/
def Asks (w : World) (mean : ExcName → Option Value) (mg mb : Str → Option Value) (go : Value → Value → Sem Value) (neg : Bool) (t u : Tree) (k : Nat := 100) : Prop :=
  ∀ (dp un : Nat) (gd : Option (List Code)) (outer : List Env) (base : Heap) (s : Shared) (v v' : Value) (Q E : Value → Shared → Prop),
    (hd.heap_39 w.params).In s.heap → TopAt mean mg mb s.heap → dp + (t.size + u.size) + 10 < recursionLimit → un + 10 * (t.size + u.size) + k < cLine →
    Below (ar dp un gd outer) base outer s.heap → TreeH base v t → TreeH base v' u →
    (∀ b h' tk, cmpT t u = some b → (∀ a o, s.heap.get? a = some o → h'.get? a = some o) → Q (.bool (b ^^ neg)) { s with heap := h', toks := tk }) →
    (∀ e h' tk, cmpT t u = Option.none → Fly base outer e h' → s.heap.UpToSlots h' → E (.ref e) { s with heap := h', toks := tk }) →
    wpAny (model PySem.Challenge.rw_dn0319_01.row.toRowW.prog w) (ar dp un gd outer) (go v v') Q E s

theorem TreeP.handed {G : Addr → Obj → Prop} {v : Value} {t : Tree} (h : TreeP G v t) : handedIn v = true := by
  cases h with
  | leaf e => cases e <;> rfl
  | node => rfl
theorem node_inst {h : Heap} {x dx : Addr} {a b c : Value} (g1 : h.get? x = some (nodeObj dx a b c)) (g2 : h.get? dx = some (dictOf [] 0)) : InstAt h x (nodeObj dx a b c) 47 (some (dictOf [] 0)) := ⟨g1, rfl, rfl, g2⟩
section
variable {w : World} {A : Around} {E : Value → Shared → Prop} {s : Shared} {h₀ : Heap} {L x dx : Addr} {m : Str → Option Value} {a b c : Value} {expr : Bool} {Q : Value → Shared → Prop}
theorem get_utcoff (F : Fr h₀ L s.heap m) (X₀ : (hd.heap_39 w.params).In h₀) (g1 : s.heap.get? x = some (nodeObj dx a b c)) (g2 : s.heap.get? dx = some (dictOf [] 0)) (hh : handedIn a = true)
    (h : Q a { s with toks := s.toks + 1 }) : wpAny (model PySem.Challenge.rw_dn0319_01.row.toRowW.prog w) A (getAttr (.ref x) (Str.ofString "utcoff") expr) Q E s := by
  revert X₀; k_fill; intro X₀
  k_dflt (refine' get_slot F X₀ (node_inst g1 g2) ?k4 ?k5 ?k6 ?k7 ?k8 ?k9 ?k10 hh h; (case k4 => k_is); (case k5 => k_is); (case k6 => k_is); (case k7 => k_is); (case k8 => k_is); (case k9 => k_is); (case k10 => rfl))
theorem get_dstoff (F : Fr h₀ L s.heap m) (X₀ : (hd.heap_39 w.params).In h₀) (g1 : s.heap.get? x = some (nodeObj dx a b c)) (g2 : s.heap.get? dx = some (dictOf [] 0)) (hh : handedIn b = true)
    (h : Q b { s with toks := s.toks + 1 }) : wpAny (model PySem.Challenge.rw_dn0319_01.row.toRowW.prog w) A (getAttr (.ref x) (Str.ofString "dstoff") expr) Q E s := by
  revert X₀; k_fill; intro X₀
  k_dflt (refine' get_slot F X₀ (node_inst g1 g2) ?k4 ?k5 ?k6 ?k7 ?k8 ?k9 ?k10 hh h; (case k4 => k_is); (case k5 => k_is); (case k6 => k_is); (case k7 => k_is); (case k8 => k_is); (case k9 => k_is); (case k10 => rfl))
theorem get_tzname (F : Fr h₀ L s.heap m) (X₀ : (hd.heap_39 w.params).In h₀) (g1 : s.heap.get? x = some (nodeObj dx a b c)) (g2 : s.heap.get? dx = some (dictOf [] 0)) (hh : handedIn c = true)
    (h : Q c { s with toks := s.toks + 1 }) : wpAny (model PySem.Challenge.rw_dn0319_01.row.toRowW.prog w) A (getAttr (.ref x) (Str.ofString "tzname") expr) Q E s := by
  revert X₀; k_fill; intro X₀
  k_dflt (refine' get_slot F X₀ (node_inst g1 g2) ?k4 ?k5 ?k6 ?k7 ?k8 ?k9 ?k10 hh h; (case k4 => k_is); (case k5 => k_is); (case k6 => k_is); (case k7 => k_is); (case k8 => k_is); (case k9 => k_is); (case k10 => rfl))
end
/-- a part asked of a plain value -/
theorem get_miss {prog : Program} {w : World} {A : Around} {E : Value → Shared → Prop} {s : Shared} {v : Value} {a : Atom} {Q : Value → Shared → Prop} (e : IsAtom v a) (hA : A.handled = none)
    (h : ∀ h' tk e, Heap.NewExcOf s.heap h' e "AttributeError" → E (.ref e) { s with heap := h', toks := tk }) :
    wpAny (model prog w) A (getAttr v (Str.ofString "utcoff") true) Q E s := by
  cases e
  · exact getAttr_miss_int (by rw [typeLookup_type, builtinLookup_eq_fast]; kernel_rfl) hA h (by decide)
  · exact getAttr_miss_bool (by rw [typeLookup_type, builtinLookup_eq_fast]; kernel_rfl) hA h (by decide)
  · exact getAttr_miss_str (by rw [typeLookup_type, builtinLookup_eq_fast]; kernel_rfl) hA h (by decide)
  · exact getAttr_miss_none (by rw [typeLookup_type, builtinLookup_eq_fast]; kernel_rfl) hA h (by decide)
/-- a new AttributeError leaves its frame -/
theorem leave_first {M : Model} {A : Around} {E : Value → Shared → Prop} {s' : Shared} {base h₀ h : Heap} {outer : List Env} {L a e : Addr} {m : Str → Option Value} {name : Str} {scope : Scope} {cd : Value} {Q : Unit → Shared → Prop}
    (B : Below A base outer h₀) (F : Fr h₀ L h m) (hx : Heap.NewExcOf h s'.heap e "AttributeError")
    (hQ : ∀ h', Fly base outer e h' → h₀.UpToSlots h' → Q () { s' with heap := h' }) (hk : scope.kind = .function := by rfl) :
    wpAny M (A.deeper (envOf name scope L a cd)) (leaving (envOf name scope L a cd) (.ref e)) Q E s' := by
  have B' := B.push (name := name) (a := a) (cd := cd) F hk
  obtain ⟨ob, vs, he, hc, hd, h1⟩ := hx.there
  have hsz : 1 < vs.size := (Array.getElem?_eq_some_iff.mp h1).1
  have hst : base.StaysIn s'.heap := fun b o q => hx.keeps b o (B'.stays b o q)
  have hen : base.get? e = Option.none := by
    cases q : base.get? e with
    | none => rfl
    | some o => have := B'.stays _ _ q; rw [hx.new] at this; cases this
  refine wpAny_leaving_firstW (a0 := vs[0]) B'.stack (B'.frames.of_keeps fun b o q _ => ⟨o, hx.keeps b o q, rfl⟩) rfl he hst hen hd h1 (Array.getElem?_eq_getElem _) fun h' hL => ?_
  obtain ⟨k1, ⟨_, _, k2⟩, k3, k4⟩ := hL
  rw [hc] at k3
  exact hQ h' ⟨_, k1, hen, k2, k3⟩ (((Heap.UpToSlots.of_keeps F.keep).trans (Heap.UpToSlots.of_keeps hx.keeps)).trans k4)
/-- one that flies leaves the next frame -/
theorem leave_next {M : Model} {A : Around} {E : Value → Shared → Prop} {s' : Shared} {base h₀ h : Heap} {outer : List Env} {L a e : Addr} {m : Str → Option Value} {name : Str} {scope : Scope} {cd : Value} {Q : Unit → Shared → Prop}
    (B : Below A base outer h₀) (F : Fr h₀ L h m) (hx : Fly base (envOf name scope L a cd :: outer) e s'.heap) (hu : h.UpToSlots s'.heap)
    (hQ : ∀ h', Fly base outer e h' → h₀.UpToSlots h' → Q () { s' with heap := h' }) :
    wpAny M (A.deeper (envOf name scope L a cd)) (leaving (envOf name scope L a cd) (.ref e)) Q E s' := by
  obtain ⟨a0, hx⟩ := hx
  exact wpAny_leaves_onW (Around.frames_deeper B.stack) rfl hx fun h' x1 x2 => hQ h' ⟨a0, x1⟩ (((Heap.UpToSlots.of_keeps F.keep).trans hu).trans x2)
theorem reads_atom {h : Heap} {v : Value} {a : Atom} {as : List Addr} (r : Reads h v a.D as) : IsAtom v a := by
  cases a with
  | int i => simp only [Atom.D] at r; cases r; exact .int _ _
  | bool b => simp only [Atom.D] at r; cases r; exact .bool _
  | str s ok => simp only [Atom.D] at r; cases r; exact .str _ _ ok
  | none => simp only [Atom.D] at r; cases r; exact .none
theorem reads_cell {h : Heap} {v : Value} {a : Atom} {as : List Addr} (r : Reads h v (cellD (some a)) as) : ∃ lc u, v = .ref lc ∧ h.IsList lc [u].toArray ∧ IsAtom u a := by
  obtain ⟨lc, vs, bs, rfl, hl, hall⟩ := reads_list r
  cases hall with
  | cons r rs => cases rs; exact ⟨_, _, rfl, hl, reads_atom r⟩
theorem Paired.mono' {α β : Type} {P Q : α → β → Prop} {l : List α} {k : List β} (h : Paired P l k) (f : ∀ a b, P a b → Q a b) : Paired Q l k := by
  induction h with
  | nil => exact .nil
  | cons h _ ih => exact .cons (f _ _ h) ih
theorem Paired.len {α β : Type} {P : α → β → Prop} {l : List α} {k : List β} (h : Paired P l k) : l.length = k.length := by
  induction h with
  | nil => rfl
  | cons _ _ ih => simp [ih]
end Mine
end
section
namespace Mine
local macro_rules | `(tactic| walk_at "mine step") => `(tactic| first | (k_unfold; (try dsimp only)) | (k_end; wrow_close) | walk1 | (dsimp only; walk1) | (leave1; walk_say "STEP leave1"; try dsimp only) | fail "no step")
local macro_rules | `(tactic| walk_at "mine to while") => `(tactic| repeat' ((fail_if_success (with_reducible show wpAny _ _ (PySem.exec (PySem.Stmt.While _ _ _ _) _) _ _ _)); walk_at "mine step"))
theorem end_call {w : World} {dp un : Nat} {fr : Option (List Env)} {gd : Option (List Code)} {s : Shared} {mean : ExcName → Option Value} {mg mb : Str → Option Value}
    {R : Result → Shared → Prop} {v : Value} {row : Row} {as : List Addr} {p : Nat} {t : Tok} {x : Tree} {rest : Row}
    (X : (hd.heap_39 w.params).In s.heap) (T : TopAt mean mg mb s.heap) (hd : dp + 10 < recursionLimit) (hu : un + 100 < cLine)
    (hr : Reads s.heap v (rowD row) as) (hlen : row.length < 1000) (hx : row.drop p = flat x ++ rest)
    (hR : ∀ h' t' tk, (∀ b o, s.heap.get? b = some o → h'.get? b = some o) → R (.ok (.ret (.int ((p + (flat x).length : Nat) : Int) t'))) { s with heap := h', toks := tk }) :
    codeAny (model PySem.Challenge.rw_dn0319_01.row.toRowW.prog w) { handled := none, depth := dp, frames := fr, guards := gd, units := un } (.call (.ref 66) ⟨[v, .int (p : Int) t], []⟩) R s := by
  obtain ⟨l, vs, bs, rfl, hl, hall⟩ := reads_list hr
  revert X; k_fill; intro X
  k_dflt (refine' enter0 X T.nolimit ?k6 ?k7 ?k8 ?k9 ?kB ?_ ?c2 ?c3 ?c4 ?c5; (case k6 => k_is); (case k7 => k_is); (case k8 => (dsimp only; omega)); (case k9 => exact BindsTo.of_eq rfl); (case c5 => decide); (case kB => exact locs rfl); (case c2 => exact rfl); (case c3 => exact rfl); (case c4 => exact rfl); k_whole; intro h' L' F' N')
  refine wpAny_noRaise ?_
  k_fold
  walk_at "mine to while"
  rename Fr _ _ _ _ => F
  rename News _ _ _ _ => N
  k_dflt (refine While_inv (L := L') (h₀ := s.heap) (news := []) (n₀ := (flats [x]).length) (fun n m nw => nw = [] ∧ m (Str.ofString "row") = some (.ref l) ∧ ∃ (ts : List Tree) (pl : Nat),
     HasInt m (Str.ofString "wanting") (ts.length : Int) ∧ HasInt m (Str.ofString "place") (pl : Int) ∧ row.drop pl = flats ts ++ rest ∧ pl + (flats ts).length = p + (flat x).length ∧ n = (flats ts).length) F N ?_ ?_ ?_)
  · exact ⟨rfl, rfl, [x], p, .of rfl rfl, .of rfl rfl, by simpa [flats] using hx, by simp [flats], rfl⟩
  · rintro n m1 nw1 h1 tk1 F1 N1 ⟨rfl, e1, ts, pl, ⟨t1, e2⟩, ⟨t2, e3⟩, hdrop, hpl, rfl⟩
    replace F1 := fr_known [(Str.ofString "row", _), (Str.ofString "wanting", _), (Str.ofString "place", _)] F1 (by simp only [List.forall_mem_cons]; exact ⟨e1, e2, e3, List.forall_mem_nil _⟩)
    simp only [known] at F1
    clear F N
    walk_at "mine to while"
    · -- a turn
      obtain _ | ⟨tr, ts⟩ := ts
      · simp at *
      obtain ⟨c, q, hc⟩ : ∃ c q, flats (tr :: ts) = c :: q := by cases tr <;> exact ⟨_, _, rfl⟩
      have hget : row[pl]? = some c := by
        have := congrArg (fun l => l[0]?) hdrop
        simpa [hc] using this
      have hpl' : pl < row.length := by
        rcases Nat.lt_or_ge pl row.length with h | h
        · exact h
        · rw [List.getElem?_eq_none h] at hget; cases hget
      obtain ⟨u, us, hu1, hu2⟩ := readsAll_get hall pl (cellD c) (by simp [hget])
      refine item_at (kept_list hl F1.keep) (by omega) (by omega) (by simpa using hu1) ?_
      walk_at "mine to while"
      rename Fr _ _ _ _ => F2
      rename News _ _ _ _ => N2
      k_dflt (refine eq_dataH (Reads.keeps F2.keep hu2) (reads_list_at (News.get N2 (by k_mem)) rfl rfl ReadsAll.nil) (cell_sh c) (by decide) (by show un + 3 + 64 < cLine; omega) ?_)
      cases tr with
      | leaf a =>
        obtain ⟨rfl, rfl⟩ : c = some a ∧ q = flats ts := by simpa [flats, flat] using hc.symm
        have e0 : PyData.eqv (cellD (some a)) (PyData.list []) = false := by simp [cellD, PyData.eqv, PyData.eqvAll]
        rw [e0]
        walk_at "mine to while"
        rename Fr _ _ _ _ => F3
        refine WhileStep.intro (n' := (flats ts).length) F3 News.nil (by simp [hc]) ⟨rfl, rfl, ts, pl + 1, .of rfl (by simp; omega), .of rfl (by omega), ?_, ?_, rfl⟩
        · rw [← List.drop_drop, hdrop, hc]; simp
        · rw [hc] at hpl; simp at hpl; omega
      | node y1 y2 y3 =>
        obtain ⟨rfl, rfl⟩ : c = Option.none ∧ q = flats (y1 :: y2 :: y3 :: ts) := by
          simp only [flats, flat, List.cons_append, List.cons.injEq] at hc
          refine ⟨hc.1.symm, ?_⟩
          rw [← hc.2]; simp [flats]
        have e0 : PyData.eqv (cellD Option.none) (PyData.list []) = true := by simp [cellD, PyData.eqv, PyData.eqvAll]
        rw [e0]
        walk_at "mine to while"
        rename Fr _ _ _ _ => F3
        refine WhileStep.intro (n' := (flats (y1 :: y2 :: y3 :: ts)).length) F3 News.nil (by simp [hc]) ⟨rfl, rfl, y1 :: y2 :: y3 :: ts, pl + 1, .of rfl (by simp; omega), .of rfl (by omega), ?_, ?_, rfl⟩
        · rw [← List.drop_drop, hdrop, hc]; simp
        · rw [hc] at hpl; simp only [List.length_cons] at hpl; omega
    · obtain _ | ⟨tr, ts⟩ := ts
      · have e4 : pl = p + (flat x).length := by simpa [flats] using hpl
        subst e4
        exact hR _ _ _ F1.keep
      · exfalso
        rename ¬ _ => hneg
        simp at hneg
  · exact PassesOwn.never
end Mine
end
section
namespace Mine
local macro_rules | `(tactic| walk_at "mine step") => `(tactic| first | (k_unfold; (try dsimp only)) | (k_end; wrow_close) | walk1 | (dsimp only; walk1) | (leave1; walk_say "STEP leave1"; try dsimp only) | fail "no step")
local macro_rules | `(tactic| walk_at "mine steps") => `(tactic| repeat' walk_at "mine step")
local macro_rules | `(tactic| walk_at "getAttr ref") => `(tactic| first
  | refine get_utcoff (by k_asm) (by k_asm) (Fr.keep (by k_asm) _ _ (by assumption)) (Fr.keep (by k_asm) _ _ (by assumption)) (by assumption) ?_
  | refine get_dstoff (by k_asm) (by k_asm) (Fr.keep (by k_asm) _ _ (by assumption)) (Fr.keep (by k_asm) _ _ (by assumption)) (by assumption) ?_
  | refine get_tzname (by k_asm) (by k_asm) (Fr.keep (by k_asm) _ _ (by assumption)) (Fr.keep (by k_asm) _ _ (by assumption)) (by assumption) ?_)
theorem node_leaf {w : World} {mean : ExcName → Option Value} {mg mb : Str → Option Value} (x y z : Tree) (a : Atom) :
    Asks w mean mg mb (fun v v' => call (.ref 36) [v, v']) false (.node x y z) (.leaf a) := by
  intro dp un gd outer base s v v' Q E X T hd hu B hv hv' hQ hE
  revert X; k_fill; intro X
  refine wpAny_call ?_
  k_dflt (refine' enter0 X T.nolimit ?k6 ?k7 ?k8 ?k9 ?kB ?_ ?c2 ?c3 ?c4 ?c5; (case k6 => k_is); (case k7 => k_is); (case k8 => (dsimp only; omega)); (case k9 => exact BindsTo.of_eq rfl); (case c5 => decide); (case kB => exact locs rfl); (case c2 => exact rfl); (case c3 => exact rfl); (case c4 => exact rfl); k_whole; intro h' L' F' N')
  k_fold
  cases hv with | node g1 g2 p1 p2 p3 =>
  cases hv' with | leaf hat =>
  have q1 := p1.handed
  have g1' := B.stays _ _ g1
  have g2' := B.stays _ _ g2
  walk_at "mine steps"
  refine get_miss hat rfl fun h2 tk2 e2 hx => ?_
  rename Fr _ _ _ _ => F2
  refine leave_first B F2 hx (fun h3 f3 u3 => ?_) rfl
  exact hE _ _ _ rfl f3 u3
theorem node_node {w : World} {mean : ExcName → Option Value} {mg mb : Str → Option Value} (x y z x' y' z' : Tree)
   (h1 : Asks w mean mg mb (compareOp .Eq) false x x') (h2 : Asks w mean mg mb (compareOp .Eq) false y y') (h3 : Asks w mean mg mb (compareOp .Eq) false z z') :
    Asks w mean mg mb (fun v v' => call (.ref 36) [v, v']) false (.node x y z) (.node x' y' z') := by
  intro dp un gd outer base s v v' Q E X T hd hu B hv hv' hQ hE
  revert X; k_fill; intro X
  refine wpAny_call ?_
  k_dflt (refine' enter0 X T.nolimit ?k6 ?k7 ?k8 ?k9 ?kB ?_ ?c2 ?c3 ?c4 ?c5; (case k6 => k_is); (case k7 => k_is); (case k8 => (dsimp only; omega)); (case k9 => exact BindsTo.of_eq rfl); (case c5 => decide); (case kB => exact locs rfl); (case c2 => exact rfl); (case c3 => exact rfl); (case c4 => exact rfl); k_whole; intro h' L' F' N')
  k_fold
  cases hv with | node g1 g2 p1 p2 p3 =>
  cases hv' with | node g1x g2x p1x p2x p3x =>
  have q1 := p1.handed
  have g1' := B.stays _ _ g1
  have g2' := B.stays _ _ g2
  have q1x := p1x.handed
  have g1x' := B.stays _ _ g1x
  have g2x' := B.stays _ _ g2x
  have q2 := p2.handed
  have q3 := p3.handed
  have q2x := p2x.handed
  have q3x := p3x.handed
  simp only [Tree.size] at hd hu
  walk_at "mine steps"
  rename Fr _ _ _ _ => F2
  k_dflt (refine h1 (dp + 1) (un + 3) gd (_ :: outer) base _ _ _ _ _ (X.keeps F2.keep) (T.keeps F2.keep) (by omega) (by omega) (B.push F2) p1 p1x ?_ ?_)
  rotate_left
  · intro e1 h4 tk4 hb f4 u4
    exact leave_next B F2 f4 u4 fun h5 f5 u5 => hE _ _ _ (by simp [cmpT, hb]) f5 u5
  intro b1 h4 tk4 hb1 hk4
  replace F2 := F2.keeps hk4
  rename News _ _ _ _ => N2
  replace N2 := N2.grown hk4
  cases b1 with
  | false =>
    walk_at "mine steps"
    rename Fr _ _ _ _ => F3
    exact hQ _ _ _ (by simp [cmpT, hb1]) F3.keep
  | true =>
    walk_at "mine steps"
    rename Fr _ _ _ _ => F3
    k_dflt (refine h2 (dp + 1) (un + 3) gd (_ :: outer) base _ _ _ _ _ (X.keeps F3.keep) (T.keeps F3.keep) (by omega) (by omega) (B.push F3) p2 p2x ?_ ?_)
    rotate_left
    · intro e1 h4 tk4 hb f4 u4
      exact leave_next B F3 f4 u4 fun h5 f5 u5 => hE _ _ _ (by simp [cmpT, hb1, hb]) f5 u5
    intro b2 h5 tk5 hb2 hk5
    replace F3 := F3.keeps hk5
    rename News _ _ _ _ => N3
    replace N3 := N3.grown hk5
    cases b2 with
    | false =>
      walk_at "mine steps"
      rename Fr _ _ _ _ => F4
      exact hQ _ _ _ (by simp [cmpT, hb1, hb2]) F4.keep
    | true =>
      walk_at "mine steps"
      rename Fr _ _ _ _ => F4
      k_dflt (refine h3 (dp + 1) (un + 3) gd (_ :: outer) base _ _ _ _ _ (X.keeps F4.keep) (T.keeps F4.keep) (by omega) (by omega) (B.push F4) p3 p3x ?_ ?_)
      rotate_left
      · intro e1 h4 tk4 hb f4 u4
        exact leave_next B F4 f4 u4 fun h5 f5 u5 => hE _ _ _ (by simp [cmpT, hb1, hb2, hb]) f5 u5
      intro b3 h6 tk6 hb3 hk6
      replace F4 := F4.keeps hk6
      rename News _ _ _ _ => N4
      replace N4 := N4.grown hk6
      walk_at "mine steps"
      exact hQ _ _ _ (by simp [cmpT, hb1, hb2, hb3]) F4.keep
end Mine
end
section
namespace Mine
section
variable {prog : Program} {w : World} {A : Around} {E : Value → Shared → Prop} {s : Shared} {x dx : Addr} {a b c : Value}
theorem decl_int_eq {i : Int} {t : Tok} {Q : Value → Shared → Prop} (hx : s.heap.get? x = some (nodeObj dx a b c)) (h : Q .notImplemented s) :
    wpAny (model prog w) A (call (.builtin "int.__eq__") [.int i t, .ref x]) Q E s := by
  refine wpAny_call_entry F.slot_int_eq (typeIs_int _ _ _) F.entry_int_eq ?_ (F.args_int_eq_2 _ _)
  obtain ⟨hp, g, d, tk, os⟩ := s
  repeat (any_goals (first | assumption | wp_step))
  all_goals exact ⟨_, rfl, h⟩
theorem decl_str_eq {i : Str} {t : Tok} {Q : Value → Shared → Prop} (hx : s.heap.get? x = some (nodeObj dx a b c)) (h : Q .notImplemented s) :
    wpAny (model prog w) A (call (.builtin "str.__eq__") [.str i t, .ref x]) Q E s := by
  refine wpAny_call_entry F.slot_str_eq (typeIs_str _ _ _) F.entry_str_eq ?_ (F.args_str_eq_2 _ _)
  obtain ⟨hp, g, d, tk, os⟩ := s
  repeat (any_goals (first | assumption | wp_step))
  all_goals exact ⟨_, rfl, h⟩
theorem decl_bool_eq {i : Bool} {Q : Value → Shared → Prop} (hx : s.heap.get? x = some (nodeObj dx a b c)) (h : Q .notImplemented s) :
    wpAny (model prog w) A (call (.builtin "int.__eq__") [.bool i, .ref x]) Q E s := by
  refine wpAny_call_entry F.slot_bool_eq rfl F.entry_int_eq ?_ (F.args_int_eq_2 _ _)
  obtain ⟨hp, g, d, tk, os⟩ := s
  repeat (any_goals (first | assumption | wp_step))
  all_goals exact ⟨_, rfl, h⟩
theorem decl_none_eq {Q : Value → Shared → Prop} (hx : s.heap.get? x = some (nodeObj dx a b c)) (h : Q .notImplemented s) :
    wpAny (model prog w) A (call (.builtin "NoneType.__eq__") [.none, .ref x]) Q E s := by
  refine wpAny_call_entry F.slot_NoneType_eq rfl F.entry_NoneType_eq ?_ (F.args_NoneType_eq_2 _ _)
  obtain ⟨hp, g, d, tk, os⟩ := s
  repeat (any_goals (first | assumption | wp_step))
  all_goals exact ⟨_, rfl, h⟩
theorem decl_int_ne {i : Int} {t : Tok} {Q : Value → Shared → Prop} (hx : s.heap.get? x = some (nodeObj dx a b c)) (h : Q .notImplemented s) :
    wpAny (model prog w) A (call (.builtin "int.__ne__") [.int i t, .ref x]) Q E s := by
  refine wpAny_call_entry F.slot_int_ne (typeIs_int _ _ _) F.entry_int_ne ?_ (F.args_int_ne_2 _ _)
  obtain ⟨hp, g, d, tk, os⟩ := s
  repeat (any_goals (first | assumption | wp_step))
  all_goals exact ⟨_, rfl, h⟩
theorem decl_str_ne {i : Str} {t : Tok} {Q : Value → Shared → Prop} (hx : s.heap.get? x = some (nodeObj dx a b c)) (h : Q .notImplemented s) :
    wpAny (model prog w) A (call (.builtin "str.__ne__") [.str i t, .ref x]) Q E s := by
  refine wpAny_call_entry F.slot_str_ne (typeIs_str _ _ _) F.entry_str_ne ?_ (F.args_str_ne_2 _ _)
  obtain ⟨hp, g, d, tk, os⟩ := s
  repeat (any_goals (first | assumption | wp_step))
  all_goals exact ⟨_, rfl, h⟩
theorem decl_bool_ne {i : Bool} {Q : Value → Shared → Prop} (hx : s.heap.get? x = some (nodeObj dx a b c)) (h : Q .notImplemented s) :
    wpAny (model prog w) A (call (.builtin "int.__ne__") [.bool i, .ref x]) Q E s := by
  refine wpAny_call_entry F.slot_bool_ne rfl F.entry_int_ne ?_ (F.args_int_ne_2 _ _)
  obtain ⟨hp, g, d, tk, os⟩ := s
  repeat (any_goals (first | assumption | wp_step))
  all_goals exact ⟨_, rfl, h⟩
theorem decl_none_ne {Q : Value → Shared → Prop} (hu : A.units + 1 < cLine) (hx : s.heap.get? x = some (nodeObj dx a b c)) (h : Q .notImplemented s) :
    wpAny (model prog w) A (call (.builtin "NoneType.__ne__") [.none, .ref x]) Q E s := by
  refine wpAny_call_entry F.slot_NoneType_ne rfl F.entry_NoneType_ne ?_ (F.args_NoneType_ne_2 _ _)
  obtain ⟨hp, g, d, tk, os⟩ := s
  repeat (any_goals (first | assumption | with_reducible refine wpAny_cRoomFor hu ?_ | wp_step))
  all_goals exact ⟨_, rfl, h⟩
theorem try_leaf_eq {v : Value} {l : Atom} {Q : Option Value → Shared → Prop} (e : IsAtom v l) (hx : s.heap.get? x = some (nodeObj dx a b c)) (h : Q Option.none s) :
    wpAny (model prog w) A (tryCompare v (cmpInfo .Eq).2.1 (.ref x)) Q E s := by
  cases e with
  | int i t => exact wpAny_tryCompare_declines (typeIs_int _ _ _) F.slot_int_eq (decl_int_eq hx ⟨rfl, h⟩)
  | bool b => exact wpAny_tryCompare_declines (T := "bool") rfl F.slot_bool_eq (decl_bool_eq hx ⟨rfl, h⟩)
  | str i t ok => exact wpAny_tryCompare_declines (typeIs_str _ _ _) F.slot_str_eq (decl_str_eq hx ⟨rfl, h⟩)
  | none => exact wpAny_tryCompare_declines (T := "NoneType") rfl F.slot_NoneType_eq (decl_none_eq hx ⟨rfl, h⟩)
theorem try_leaf_ne {v : Value} {l : Atom} {Q : Option Value → Shared → Prop} (hu : A.units + 1 < cLine) (e : IsAtom v l) (hx : s.heap.get? x = some (nodeObj dx a b c)) (h : Q Option.none s) :
    wpAny (model prog w) A (tryCompare v (cmpInfo .NotEq).2.1 (.ref x)) Q E s := by
  cases e with
  | int i t => exact wpAny_tryCompare_declines (typeIs_int _ _ _) F.slot_int_ne (decl_int_ne hx ⟨rfl, h⟩)
  | bool b => exact wpAny_tryCompare_declines (T := "bool") rfl F.slot_bool_ne (decl_bool_ne hx ⟨rfl, h⟩)
  | str i t ok => exact wpAny_tryCompare_declines (typeIs_str _ _ _) F.slot_str_ne (decl_str_ne hx ⟨rfl, h⟩)
  | none => exact wpAny_tryCompare_declines (T := "NoneType") rfl F.slot_NoneType_ne (decl_none_ne hu hx ⟨rfl, h⟩)
theorem one_leaf {v : Value} {l : Atom} (op : CmpOp) (e : IsAtom v l) : oneThing? op v (.ref x) = Option.none := by
  cases e <;> cases op <;> rfl
def leafType : Atom → String
  | .int _ => "int"
  | .bool _ => "bool"
  | .str _ _ => "str"
  | .none => "NoneType"
theorem type_leaf {v : Value} {l : Atom} (e : IsAtom v l) : typeOf v = pure (.type (leafType l)) := by cases e <;> rfl
end
section
variable {w : World} {A : Around} {E : Value → Shared → Prop} {s : Shared} {x dx : Addr} {a b c : Value}
/-- a plain value on the left, an instance on the right: the right one is asked -/
theorem rich_leaf {v : Value} {l : Atom} {op : CmpOp} {Q : Value → Shared → Prop} (X : (hd.heap_39 w.params).In s.heap) (hu : A.units + 1 < cLine) (e : IsAtom v l) (hx : s.heap.get? x = some (nodeObj dx a b c)) (hop : op = .Eq ∨ op = .NotEq)
    (h : wpAny (model PySem.Challenge.rw_dn0319_01.row.toRowW.prog w) A (tryCompare (.ref x) (cmpInfo op).2.1 v) (fun r s' => ∃ q, r = some q ∧ Q q s') E s) :
    wpAny (model PySem.Challenge.rw_dn0319_01.row.toRowW.prog w) A (richCompare op v (.ref x)) Q E s := by
  have hsub : Looks (model PySem.Challenge.rw_dn0319_01.row.toRowW.prog w) s.heap (isSubtype (.ref 47) (.type (leafType l))) false := by
    revert X; k_fill; intro X
    cases l
    · show Looks _ _ (isSubtype (.ref 47) (.type "int")) false
      exact looks_subIn X (by k_is)
    · show Looks _ _ (isSubtype (.ref 47) (.type "bool")) false
      exact looks_subIn X (by k_is)
    · show Looks _ _ (isSubtype (.ref 47) (.type "str")) false
      exact looks_subIn X (by k_is)
    · show Looks _ _ (isSubtype (.ref 47) (.type "NoneType")) false
      exact looks_subIn X (by k_is)
  have htry : ∀ {Q' : Option Value → Shared → Prop}, Q' Option.none s → wpAny (model PySem.Challenge.rw_dn0319_01.row.toRowW.prog w) A (tryCompare v (cmpInfo op).2.1 (.ref x)) Q' E s := by
    intro Q' hq
    rcases hop with rfl | rfl
    · exact try_leaf_eq e hx hq
    · exact try_leaf_ne hu e hx hq
  have hri : (cmpInfo op).2.2 = (cmpInfo op).2.1 := by rcases hop with rfl | rfl <;> rfl
  unfold richCompare
  simp only [one_leaf op e]
  refine wpAny_holding (wpAny_bind (wpAny_cRoomFor (by omega) ?_))
  refine wpAny_bind (wpAny_of_eq (type_leaf e) (wpAny_bind (wpAny_typeOf_ref hx ?_)))
  rw [if_pos (by rfl)]
  refine wpAny_bind (hsub.here ?_)
  simp only [Bool.false_eq_true, if_false]
  refine wpAny_bind (htry ?_)
  simp only [Bool.not_false, if_true, hri]
  refine wpAny_bind (wpAny_mono h (fun r s' hr => ?_) fun _ _ e => e)
  obtain ⟨q, rfl, hq⟩ := hr
  exact wpAny_pure hq
/-- an instance on the left: it is asked -/
theorem rich_node {v : Value} {t : Tree} {op : CmpOp} {Q : Value → Shared → Prop} (X : (hd.heap_39 w.params).In s.heap) (hu : A.units + 1 < cLine) (e : TreeH s.heap v t) (hx : s.heap.get? x = some (nodeObj dx a b c))
    (h : wpAny (model PySem.Challenge.rw_dn0319_01.row.toRowW.prog w) A (tryCompare (.ref x) (cmpInfo op).2.1 v) (fun r s' => ∃ q, r = some q ∧ Q q s') E s) :
    wpAny (model PySem.Challenge.rw_dn0319_01.row.toRowW.prog w) A (richCompare op (.ref x) v) Q E s := by
  unfold richCompare
  simp only [oneThing_ref]
  refine wpAny_holding (wpAny_bind (wpAny_cRoomFor (by omega) ?_))
  refine wpAny_bind (wpAny_typeOf_ref hx ?_)
  cases e with
  | leaf e =>
    refine wpAny_bind (wpAny_of_eq (type_leaf e) ?_)
    rw [if_pos (by rfl)]
    rename_i l
    have hsub : Looks (model PySem.Challenge.rw_dn0319_01.row.toRowW.prog w) s.heap (isSubtype (.type (leafType l)) (.ref 47)) false := by
      revert X; k_fill; intro X
      cases l
      · show Looks _ _ (isSubtype (.type "int") (.ref 47)) false
        exact looks_subIn X (by k_is)
      · show Looks _ _ (isSubtype (.type "bool") (.ref 47)) false
        exact looks_subIn X (by k_is)
      · show Looks _ _ (isSubtype (.type "str") (.ref 47)) false
        exact looks_subIn X (by k_is)
      · show Looks _ _ (isSubtype (.type "NoneType") (.ref 47)) false
        exact looks_subIn X (by k_is)
    refine wpAny_bind (hsub.here ?_)
    simp only [Bool.false_eq_true, if_false]
    refine wpAny_bind (wpAny_mono h (fun r s' hr => ?_) fun _ _ e => e)
    obtain ⟨q, rfl, hq⟩ := hr
    exact wpAny_pure hq
  | node g1 g2 _ _ _ =>
    refine wpAny_bind (wpAny_typeOf_ref g1 ?_)
    rw [if_neg (by simp)]
    refine wpAny_bind (wpAny_pure ?_)
    simp only [Bool.false_eq_true, if_false]
    refine wpAny_bind (wpAny_mono h (fun r s' hr => ?_) fun _ _ e => e)
    obtain ⟨q, rfl, hq⟩ := hr
    exact wpAny_pure hq
/-- its own __eq__ -/
theorem try_eq {v : Value} {Q : Option Value → Shared → Prop} (X : (hd.heap_39 w.params).In s.heap) (g1 : s.heap.get? x = some (nodeObj dx a b c)) (g2 : s.heap.get? dx = some (dictOf [] 0))
    (h : wpAny (model PySem.Challenge.rw_dn0319_01.row.toRowW.prog w) A (call (.ref 36) [.ref x, v]) (fun r s' => ∃ q, r = .bool q ∧ Q (some (.bool q)) s') E s) :
    wpAny (model PySem.Challenge.rw_dn0319_01.row.toRowW.prog w) A (tryCompare (.ref x) (cmpInfo .Eq).2.1 v) Q E s := by
  revert X; k_fill; intro X
  unfold tryCompare
  refine wpAny_bind (ifBound_K (f := 36) X (node_inst g1 g2) (by k_is) (by k_is) (wpAny_mono h (fun r s' hr => ?_) fun _ _ e => e))
  obtain ⟨q, rfl, hq⟩ := hr
  exact wpAny_pure hq
/-- != by its own __eq__ -/
theorem try_ne {v : Value} {Q : Option Value → Shared → Prop} (X : (hd.heap_39 w.params).In s.heap) (hu : A.units + 2 < cLine) (g1 : s.heap.get? x = some (nodeObj dx a b c)) (g2 : s.heap.get? dx = some (dictOf [] 0))
    (h : wpAny (model PySem.Challenge.rw_dn0319_01.row.toRowW.prog w) A.in1 (call (.ref 36) [.ref x, v]) (fun r s' => ∃ q, r = .bool q ∧ Q (some (.bool (!q))) s') E s) :
    wpAny (model PySem.Challenge.rw_dn0319_01.row.toRowW.prog w) A (tryCompare (.ref x) (cmpInfo .NotEq).2.1 v) Q E s := by
  revert X; k_fill; intro X
  unfold tryCompare
  have hfind : Looks (model PySem.Challenge.rw_dn0319_01.row.toRowW.prog w) s.heap (typeLookup (.ref 47) (cmpInfo .NotEq).2.1) (some (.builtin "object.__ne__")) := looks_findIn X (by k_is)
  obtain ⟨hp, g, d, tk, os⟩ := s
  have hC : hp.get? 47 = some (excClassObj (Str.ofString "_ttinfo") (Str.ofString "_ttinfo") 47 46 [Value.type "object"] [Value.type "object"] false [Str.ofString "dstoff", Str.ofString "tzname", Str.ofString "utcoff"] [] false Option.none Option.none Option.none Option.none _ _ _ "object.__new__") := X 47 _ (by k_is)
  have body : wpAny (model PySem.Challenge.rw_dn0319_01.row.toRowW.prog w) A (call (.builtin "object.__ne__") [.ref x, v]) (fun r s' => ∃ q, r = .bool q ∧ Q (some (.bool q)) s') E ⟨hp, g, d, tk, os⟩ := by
    refine wpAny_call (codeAny_call_builtin F.cmp_object.ne.plain F.cmpEntry_ne (wpAny_check_slot_inst F.cmpKind_ne F.cmpSplit_ne (F.cmpArgs_ne _ _) F.cmp_object.hasObject g1 rfl hC ?_))
    unfold Builtin.«object.__ne__»
    repeat (first
      | with_reducible refine wpAny_cRoomFor (by show A.units + 1 < cLine; omega) ?_
      | (refine wpAny_bind (m := callSpecialIfBound? (.ref x) (Str.ofString "__eq__") [v]) (ifBound_K (f := 36) X (node_inst g1 g2) (by k_is) (by k_is) (wpAny_mono h (fun r s' hr => ?_) fun _ _ e => e)))
      | wp_step)
    obtain ⟨q, rfl, hq⟩ := hr
    exact wpAny_bind (wpAny_truthy_bool (wpAny_pure ⟨_, rfl, hq⟩))
  simp only [callSpecialIfBound?, bindSpecialIfBound?]
  refine wpAny_bind (wpAny_holding (wpAny_bind (wpAny_bind (wpAny_bind ((node_inst g1 g2).type.here (hfind.here ?_))))))
  have fin : wpAny (model PySem.Challenge.rw_dn0319_01.row.toRowW.prog w) A (call (.builtin "object.__ne__") ([.ref x] ++ [v]) >>= fun v => pure (some v)) (fun r s' => wpAny (model PySem.Challenge.rw_dn0319_01.row.toRowW.prog w) A (match r with
      | some .notImplemented => pure Option.none
      | Option.none => pure Option.none
      | some v => pure (some v)) Q E s') E ⟨hp, g, d, tk, os⟩ :=
    wpAny_bind (wpAny_mono body (fun r s' hr => by obtain ⟨q, rfl, hq⟩ := hr; exact wpAny_pure (wpAny_pure hq)) fun _ _ e => e)
  refine wpAny_bind (wpAny_askSetting (wpAny_ite ?_))
  split
  · exact wpAny_bind (wpAny_of_eq (F.cmp_object.ne.bind _) (wpAny_pure (by exact fin)))
  · exact wpAny_tryCatch (wpAny_bind (wpAny_of_eq (F.cmp_object.ne.bind _) (wpAny_pure (by exact fin))))
end
end Mine
end
section
namespace Mine
section
variable {w : World} {mean : ExcName → Option Value} {mg mb : Str → Option Value}
theorem eq_of_call {x y z u : Tree} (h : Asks w mean mg mb (fun v v' => call (.ref 36) [v, v']) false (.node x y z) u) : Asks w mean mg mb (compareOp .Eq) false (.node x y z) u := by
  intro dp un gd outer base s v v' Q E X T hd hu B hv hv' hQ hE
  have hvs := hv.mono B.stays
  have hvs' := hv'.mono B.stays
  cases hvs with | node g1 g2 _ _ _ =>
  refine cmp_ofEq (rich_node X (by show un + 1 < cLine; omega) hvs' g1 (try_eq X g1 g2 ?_))
  exact h dp un gd outer base s _ _ _ _ X T hd hu B hv hv' (fun b h' tk hb hk => ⟨_, rfl, _, rfl, hQ b h' tk hb hk⟩) hE
theorem eq_leaf_node {a : Atom} {x y z : Tree} : Asks w mean mg mb (compareOp .Eq) false (.leaf a) (.node x y z) := by
  intro dp un gd outer base s v v' Q E X T hd hu B hv hv' hQ hE
  have hvs' := hv'.mono B.stays
  cases hvs' with | node g1 g2 _ _ _ =>
  cases hv with | leaf e =>
  refine cmp_ofEq (rich_leaf X (by show un + 1 < cLine; omega) e g1 (.inl rfl) (try_eq X g1 g2 ?_))
  refine node_leaf x y z a dp un gd outer base s _ _ _ _ X T (by simp only [Tree.size] at hd ⊢; omega) (by simp only [Tree.size] at hu ⊢; omega) B hv' (.leaf e) (fun b h' tk hb hk => ?_) (fun e h' tk _ f u => hE e h' tk rfl f u)
  simp [cmpT] at hb
theorem eq_leaf_leaf {a b : Atom} : Asks w mean mg mb (compareOp .Eq) false (.leaf a) (.leaf b) := by
  intro dp un gd outer base s v v' Q E X T hd hu B hv hv' hQ hE
  cases hv with | leaf e =>
  cases hv' with | leaf e' =>
  refine eq_dataH (e.reads _) (e'.reads _) a.sh b.sh (by show un + 64 < cLine; omega) ?_
  have := hQ _ s.heap s.toks rfl (fun _ _ e => e)
  simpa [atomEq] using this
theorem eq_tree : ∀ t u : Tree, Asks w mean mg mb (compareOp .Eq) false t u := by
  intro t
  induction t with
  | leaf a =>
    intro u
    cases u with
    | leaf b => exact eq_leaf_leaf
    | node => exact eq_leaf_node
  | node x y z ix iy iz =>
    intro u
    cases u with
    | leaf b => exact eq_of_call (node_leaf x y z b)
    | node x' y' z' => exact eq_of_call (node_node x y z x' y' z' (ix x') (iy y') (iz z'))
theorem call_tree (x y z : Tree) : ∀ u : Tree, Asks w mean mg mb (fun v v' => call (.ref 36) [v, v']) false (.node x y z) u := by
  intro u
  cases u with
  | leaf b => exact node_leaf x y z b
  | node x' y' z' => exact node_node x y z x' y' z' (eq_tree x x') (eq_tree y y') (eq_tree z z')
theorem ne_node (x y z u : Tree) : Asks w mean mg mb (compareOp .NotEq) true (.node x y z) u 101 := by
  intro dp un gd outer base s v v' Q E X T hd hu B hv hv' hQ hE
  have hvs := hv.mono B.stays
  have hvs' := hv'.mono B.stays
  cases hvs with | node g1 g2 _ _ _ =>
  refine cmp_ofNotEq (rich_node X (by show un + 1 < cLine; omega) hvs' g1 (try_ne X (by show un + 2 < cLine; omega) g1 g2 ?_))
  refine call_tree x y z u dp (un + 1) gd outer base s _ _ _ _ X T hd (by omega) ⟨rfl, B.stays, B.frames⟩ hv hv' (fun b h' tk hb hk => ⟨_, rfl, _, rfl, ?_⟩) hE
  have := hQ b h' tk hb hk
  simpa using this
theorem ne_leaf (a : Atom) (x y z : Tree) : Asks w mean mg mb (compareOp .NotEq) true (.leaf a) (.node x y z) 101 := by
  intro dp un gd outer base s v v' Q E X T hd hu B hv hv' hQ hE
  have hvs' := hv'.mono B.stays
  cases hvs' with | node g1 g2 _ _ _ =>
  cases hv with | leaf e =>
  refine cmp_ofNotEq (rich_leaf X (by show un + 1 < cLine; omega) e g1 (.inr rfl) (try_ne X (by show un + 2 < cLine; omega) g1 g2 ?_))
  refine node_leaf x y z a dp (un + 1) gd outer base s _ _ _ _ X T (by simp only [Tree.size] at hd ⊢; omega) (by simp only [Tree.size] at hu ⊢; omega) ⟨rfl, B.stays, B.frames⟩ hv' (.leaf e) (fun b h' tk hb hk => ?_) (fun e h' tk _ f u => hE e h' tk rfl f u)
  simp [cmpT] at hb
end
end Mine
end
section
namespace Mine
local macro_rules | `(tactic| walk_at "mine step") => `(tactic| first | (k_unfold; (try dsimp only)) | (k_end; wrow_close) | walk1 | (dsimp only; walk1) | (leave1; walk_say "STEP leave1"; try dsimp only) | fail "no step")
local macro_rules | `(tactic| walk_at "mine steps") => `(tactic| repeat' walk_at "mine step")
local macro_rules | `(tactic| walk_at "mine to for") => `(tactic| repeat' ((fail_if_success (with_reducible show wpAny _ _ (PySem.exec (PySem.Stmt.For _ _ _ _ _) _) _ _ _)); walk_at "mine step"))
local macro_rules | `(tactic| walk_at "mine to iter") => `(tactic| repeat' ((fail_if_success (with_reducible show wpAny _ _ (PySem.pyIter _) _ _ _)); walk_at "mine step"))
local macro_rules | `(tactic| k_all) => `(tactic| assumption)
local macro_rules | `(tactic| walk_at "mine size") => `(tactic| (refine Nat.le_trans (m := 1000) ?_ (by decide); simp only [List.size_toArray, List.length_append, List.length_reverse, List.length_cons, List.length_nil]; (try simp only [List.length_cons] at *); omega))
local macro_rules | `(tactic| walk_at "call builtin:list.pop") => `(tactic| (k_here; (with_reducible show wpAny _ _ (call (Value.builtin _) [Value.ref _]) _ _ _); k_dflt (refine' kl_pop ?F ?N (kpa_last _ _) ?U ?z ?_; (case F => k_asm); (case N => k_asm); (case U => k_upd); (case z => walk_at "mine size")); intro h' F' N'; (try k_sweep)))
local macro_rules | `(tactic| walk_at "call builtin:list.append") => `(tactic| (k_here; (with_reducible show wpAny _ _ (call (Value.builtin _) [Value.ref _, _]) _ _ _); k_dflt (refine' append_K ?k1 ?k2 ?k3 ?_ ?z; (case k1 => k_asm); (case k2 => k_asm); (case k3 => k_upd); (case z => walk_at "mine size"); k_whole); intro h' F' N'; (try k_sweep)))
theorem made_call {w : World} {dp un : Nat} {outer : List Env} {base : Heap} {gd : Option (List Code)} {s : Shared} {mean : ExcName → Option Value} {mg mb : Str → Option Value}
    {R : Result → Shared → Prop} {v : Value} {t : Tree} {as : List Addr}
    (X : (hd.heap_39 w.params).In s.heap) (T : TopAt mean mg mb s.heap) (hd : dp + 10 < recursionLimit) (hu : un + 100 < cLine) (B : Below (ar dp un gd outer) base outer s.heap)
    (hr : Reads s.heap v (rowD (flat t)) as) (hlen : (flat t).length < 1000)
    (hR : ∀ r h' tk, (∀ b o, s.heap.get? b = some o → h'.get? b = some o) → TreeP (fun a o => h'.get? a = some o ∧ s.heap.get? a = Option.none) r t → R (.ok (.ret r)) { s with heap := h', toks := tk }) :
    codeAny (model PySem.Challenge.rw_dn0319_01.row.toRowW.prog w) (ar dp un gd outer) (.call (.ref 59) ⟨[v], []⟩) R s := by
  obtain ⟨l, vs, bs, rfl, hl, hall⟩ := reads_list hr
  revert X; k_fill; intro X
  k_dflt (refine' enter0 X T.nolimit ?k6 ?k7 ?k8 ?k9 ?kB ?_ ?c2 ?c3 ?c4 ?c5; (case k6 => k_is); (case k7 => k_is); (case k8 => (dsimp only; omega)); (case k9 => exact BindsTo.of_eq rfl); (case c5 => decide); (case kB => exact locs rfl); (case c2 => exact rfl); (case c3 => exact rfl); (case c4 => exact rfl); k_whole; intro h' L' F' N')
  refine wpAny_noRaise ?_
  k_fold
  walk_at "mine to for"
  rename Fr _ _ _ _ => F
  k_dflt (refine For_invVF F rfl rfl ?_ (fun _ => rfl) PassesOwn.never)
  walk_at "mine to iter"
  rename Fr _ _ _ _ => F1
  rename News _ _ _ _ => N1
  rename (_ : Nat) < _ => hlt
  have hn : vs.length = (flat t).length := by simpa using readsAll_len hall
  k_dflt (refine loop_rev rfl hl F1 N1 ?_ (fun i m nw => ∃ (aT : Addr) (us : List Value) (k : Nat) (old : List (Addr × Obj)), m (Str.ofString "things") = some (.ref aT) ∧ nw = (aT, W.listOf us.reverse.toArray k) :: old ∧ (∀ p ∈ old, p.1 ≠ aT) ∧
      Paired (TreeP (fun a o => (a, o) ∈ old)) us (stk ((flat t).drop ((flat t).length - i)))) ⟨_, [], 0, [], rfl, rfl, by simp, by simpa [stk] using Paired.nil⟩ ?_ ?_)
  · intro p hp; rw [List.mem_singleton.mp hp]; exact Nat.ne_of_lt hlt
  · rintro i v m1 nw it h2 tk2 hi hv ⟨aT, us, k, old, e1, rfl, hold, hp⟩ hoff F2 N2
    replace F2 := fr_known [(Str.ofString "one", _), (Str.ofString "things", _)] F2 (by simp only [List.forall_mem_cons]; exact ⟨rfl, e1, List.forall_mem_nil _⟩)
    simp only [known] at F2
    have hTI := hoff _ (List.mem_cons_self ..)
    dsimp only at hTI
    replace hTI := neN hTI
    clear N1 F1
    walk_at "mine steps"
    have hi' : (flat t).length - 1 - i < (flat t).length := by omega
    obtain ⟨c, hc⟩ : ∃ c, (flat t)[(flat t).length - 1 - i]? = some c := ⟨_, List.getElem?_eq_getElem hi'⟩
    have hsuf : (flat t).drop ((flat t).length - (i + 1)) = c :: (flat t).drop ((flat t).length - i) := by
      have e : (flat t).length - (i + 1) = (flat t).length - 1 - i := by omega
      have e' : (flat t).length - i = (flat t).length - 1 - i + 1 := by omega
      rw [e, e']
      rw [List.drop_eq_getElem_cons hi']
      congr 1
      rw [List.getElem?_eq_getElem hi'] at hc
      exact Option.some.inj hc
    obtain ⟨v', as', hv1, hv2⟩ := readsAll_get hall ((flat t).length - 1 - i) (cellD c) (by simp [hc])
    obtain rfl : v = v' := by rw [hn, hv1] at hv; exact (Option.some.inj hv).symm
    have hus : us.length < 1000 := by
      rw [Paired.len hp]
      have h1 := stk_len ((flat t).drop ((flat t).length - i))
      have h2 : ((flat t).drop ((flat t).length - i)).length ≤ (flat t).length := by simp
      omega
    rename Fr _ _ _ _ => F3
    rename News _ _ _ _ => N3
    k_dflt (refine eq_dataH (Reads.keeps F3.keep hv2) (reads_list_at (News.get N3 (by k_mem)) rfl rfl ReadsAll.nil) (cell_sh c) (by decide) (by show un + 3 + 64 < cLine; omega) ?_)
    cases c with
    | some a =>
      have e0 : PyData.eqv (cellD (some a)) (PyData.list []) = false := by simp [cellD, PyData.eqv, PyData.eqvAll]
      rw [e0]
      obtain ⟨lc, u, rfl, hlc, hat⟩ := reads_cell hv2
      walk_at "mine steps"
      rename Fr _ _ _ _ => F4
      rename News _ _ _ _ => N4
      rename _ < _ ∧ _ < _ ∧ AllLt _ _ => hl1
      rw [show us.reverse.toArray.push u = (u :: us).reverse.toArray by simp] at N4
      refine TurnPost.go _ F4 (news_rot1 N4) ?_ ⟨aT, u :: us, k + 1, _ :: old, rfl, rfl, ?_, ?_⟩
      · intro p hp
        rcases List.mem_cons.mp hp with rfl | hp
        · exact hTI
        · rcases List.mem_cons.mp hp with rfl | hp
          · exact Nat.ne_of_gt hl1.1
          · exact hoff _ (List.mem_cons_of_mem _ hp)
      · intro p hp
        rcases List.mem_cons.mp hp with rfl | hp
        · exact Nat.ne_of_gt hl1.2.1
        · exact hold _ hp
      · rw [hsuf]
        exact .cons (.leaf hat) (Paired.mono' hp fun _ _ q => q.mono fun _ _ m => List.mem_cons_of_mem _ m)
    | none =>
      have e0 : PyData.eqv (cellD Option.none) (PyData.list []) = true := by simp [cellD, PyData.eqv, PyData.eqvAll]
      rw [e0]
      obtain ⟨x, y, z, q, hq1, hq2⟩ := stk_marker (t := t) (pre := (flat t).take ((flat t).length - (i + 1))) (suf := (flat t).drop ((flat t).length - i)) (by rw [← hsuf, List.take_append_drop])
      rw [hq1] at hp
      cases hp with | cons p1 hp =>
      cases hp with | cons p2 hp =>
      cases hp with | cons p3 hp =>
      rename_i vx us vy us vz us
      simp only [List.reverse_cons] at *
      walk_at "mine steps"
      k_dflt (refine' call_cls ?k1 ?k2 ?k3 ?k4 ?k5 ?k6 ?_; (case k1 => k_asm); (case k2 => k_asm); (case k3 => k_asm); (case k4 => k_is); (case k5 => k_is); (case k6 => k_is); k_whole; intro x' d' h' F' N' l1 l2; (try k_lt l1); (try k_lt2 l2); (try k_sweep))
      have l3 := tbn_up l2 l1.2.2.2
      k_dflt (refine' code_def ?k1 ?k2 ?k3 ?k4 ?k5 ?kA ?kF ?kK ?k6 ?k7 ?k8 ?k9 ?kB ?_ ?c2 ?c3 ?c4 ?c5; (case kA => exact rfl); (case kF => exact rfl); (case kK => exact rfl); (case k1 => k_asm); (case k2 => k_asm); (case k3 => k_asm); (case k4 => k_asm); (case k5 => k_asm); (case k6 => k_is); (case k7 => k_is); (case k8 => (simp only [depth_under_make, depth_in1, depth_deeper]; show dp + 1 + 1 < recursionLimit; omega)); (case k9 => exact BindsTo.of_eq rfl); (case c5 => decide); (case kB => exact locs rfl); (case c2 => exact rfl); (case c3 => exact rfl); (case c4 => exact rfl); k_whole; intro g' L' h' FG' F' N' B' X' T'; (try dsimp only); (try k_fold))
      walk_at "mine steps"
      rename Fr _ _ _ _ => F4
      rename News _ _ _ _ => N4
      have l4 := tb_ltOf l3
      rw [show us.reverse.toArray.push (Value.ref x') = (Value.ref x' :: us).reverse.toArray by simp] at N4
      refine TurnPost.go _ F4 (news_rot3 N4) ?_ ⟨aT, .ref x' :: us, _, _ :: _ :: _ :: old, rfl, rfl, ?_, ?_⟩
      · intro p hp
        simp only [List.mem_cons] at hp
        rcases hp with rfl | rfl | rfl | rfl | hp
        · exact hTI
        · exact neN (by dsimp only; omega)
        · exact neN (by dsimp only; omega)
        · exact neN (by dsimp only; omega)
        · exact hoff _ (List.mem_cons_of_mem _ hp)
      · intro p hp
        simp only [List.mem_cons] at hp
        rcases hp with rfl | rfl | rfl | hp
        · exact neN (by dsimp only; omega)
        · exact neN (by dsimp only; omega)
        · exact neN (by dsimp only; omega)
        · exact hold _ hp
      · rw [hsuf, hq2]
        have up : ∀ {e f g : Addr × Obj} (a : Addr) (o : Obj), (a, o) ∈ old → (a, o) ∈ e :: f :: g :: old := fun _ _ m => .tail _ (.tail _ (.tail _ m))
        exact .cons (.node (.head _) (.tail _ (.head _)) (p1.mono up) (p2.mono up) (p3.mono up)) (Paired.mono' hp fun _ _ q => q.mono up)
  · rintro m1 nw h2 tk2 ⟨aT, us, k, old, e1, rfl, hold, hp⟩ F2 N2
    rw [hn, Nat.sub_self, List.drop_zero, flat_whole] at hp
    cases hp with | cons p1 hp =>
    cases hp
    simp only [List.reverse_cons, List.reverse_nil, List.nil_append] at N2
    replace F2 := fr_known [(Str.ofString "things", _)] F2 (by simp only [List.forall_mem_cons]; exact ⟨e1, List.forall_mem_nil _⟩)
    simp only [known] at F2
    clear N1 F1
    walk_at "mine steps"
    exact hR _ _ _ F2.keep (p1.mono fun a o m => ⟨(N2 _ (List.mem_cons_of_mem _ m)).1, (N2 _ (List.mem_cons_of_mem _ m)).2.2⟩)
end Mine
end
section
namespace Mine
local macro_rules | `(tactic| walk_at "mine step") => `(tactic| first | (k_unfold; (try dsimp only)) | (k_end; wrow_close) | walk1 | (dsimp only; walk1) | (leave1; walk_say "STEP leave1"; try dsimp only) | fail "no step")
local macro_rules | `(tactic| walk_at "mine steps") => `(tactic| repeat' walk_at "mine step")
local macro_rules | `(tactic| walk_at "mine to for") => `(tactic| repeat' ((fail_if_success (with_reducible show wpAny _ _ (PySem.exec (PySem.Stmt.For _ _ _ _ _) _) _ _ _)); walk_at "mine step"))
local macro_rules | `(tactic| walk_at "mine to iter") => `(tactic| repeat' ((fail_if_success (with_reducible show wpAny _ _ (PySem.pyIter _) _ _ _)); walk_at "mine step"))
local macro_rules | `(tactic| walk_at "call builtin:len") => `(tactic| (k_here; (with_reducible show wpAny _ _ (call (Value.builtin _) [Value.ref _]) _ _ _); k_dflt (refine' len_at (kept_list (by assumption) (Fr.keep (by k_asm))) ?z ?_; (case z => omega))))
local macro_rules | `(tactic| walk_at "subscriptTail") => `(tactic| (k_here; (with_reducible show wpAny _ _ (subscriptTail _ _ (Value.ref _) (Value.int _ _)) _ _ _); k_dflt (refine' item_at (kept_list (by assumption) (Fr.keep (by k_asm))) ?a ?b ?c ?_ ?d; (case a => omega); (case b => omega); (case c => (simp only [Int.toNat_natCast]; assumption)); (case d => with_unfolding_all rfl); k_whole)))
theorem due_call {w : World} {dp un : Nat} {fr : Option (List Env)} {gd : Option (List Code)} {s : Shared} {mean : ExcName → Option Value} {mg mb : Str → Option Value}
    {R : Result → Shared → Prop} {v v' : Value} {r r' : Row} {as as' : List Addr}
    (X : (hd.heap_39 w.params).In s.heap) (T : TopAt mean mg mb s.heap) (hd : dp + 10 < recursionLimit) (hu : un + 100 < cLine)
    (hr : Reads s.heap v (rowD r) as) (hr' : Reads s.heap v' (rowD r') as') (hlen : r.length < 1000) (hlen' : r'.length < 1000)
    (hR : ∀ q h' tk, (∀ b o, s.heap.get? b = some o → h'.get? b = some o) → (∃ qs, Reads h' q (dueD (dueR r r')) qs) → R (.ok (.ret q)) { s with heap := h', toks := tk }) :
    codeAny (model PySem.Challenge.rw_dn0319_01.row.toRowW.prog w) { handled := none, depth := dp, frames := fr, guards := gd, units := un } (.call (.ref 73) ⟨[v, v'], []⟩) R s := by
  obtain ⟨l, vs, bs, rfl, hl, hall⟩ := reads_list hr
  obtain ⟨l', vs', bs', rfl, hl', hall'⟩ := reads_list hr'
  have hn : vs.length = r.length := by simpa using readsAll_len hall
  have hn' : vs'.length = r'.length := by simpa using readsAll_len hall'
  revert X; k_fill; intro X
  k_dflt (refine' enter0 X T.nolimit ?k6 ?k7 ?k8 ?k9 ?kB ?_ ?c2 ?c3 ?c4 ?c5; (case k6 => k_is); (case k7 => k_is); (case k8 => (dsimp only; omega)); (case k9 => exact BindsTo.of_eq rfl); (case c5 => decide); (case kB => exact locs rfl); (case c2 => exact rfl); (case c3 => exact rfl); (case c4 => exact rfl); k_whole; intro h' L' F' N')
  refine wpAny_noRaise ?_
  k_fold
  walk_at "mine to for"
  rename Fr _ _ _ _ => F
  k_dflt (refine For_invVF F rfl rfl ?_ (fun _ => rfl) PassesOwn.never)
  walk_at "mine to iter"
  rename IsRange _ _ _ _ _ _ _ _ => hrng
  rename Fr _ _ _ _ => F1
  rename News _ _ _ _ => N1
  clear F
  k_dflt (refine loop_range (n := min r.length r'.length) rfl hrng (by split <;> omega) (by omega) F1 N1 (fun i m nw => m (Str.ofString "row") = some (.ref l) ∧ m (Str.ofString "other") = some (.ref l') ∧ nw = [] ∧ dueR r r' = dueR (r.drop i) (r'.drop i)) ⟨rfl, rfl, rfl, by simp⟩ ?_ ?_)
  · rintro i tk1 m1 nw I it h2 tk2 hi ⟨e1, e2, rfl, hdue⟩ hoff F2 N2
    replace F2 := fr_known [(Str.ofString "k", _), (Str.ofString "row", _), (Str.ofString "other", _)] F2 (by simp only [List.forall_mem_cons]; exact ⟨rfl, e1, e2, List.forall_mem_nil _⟩)
    simp only [known] at F2
    clear F1 N1
    have hi1 : i < r.length := by omega
    have hi2 : i < r'.length := by omega
    obtain ⟨c, hc⟩ : ∃ c, r[i]? = some c := ⟨_, List.getElem?_eq_getElem hi1⟩
    obtain ⟨d, hd'⟩ : ∃ d, r'[i]? = some d := ⟨_, List.getElem?_eq_getElem hi2⟩
    obtain ⟨u, us, hu1, hu2⟩ := readsAll_get hall i (cellD c) (by simp [hc])
    obtain ⟨u', us', hu1', hu2'⟩ := readsAll_get hall' i (cellD d) (by simp [hd'])
    have hs1 : r.drop i = c :: r.drop (i + 1) := by
      rw [List.drop_eq_getElem_cons hi1]; congr 1
      rw [List.getElem?_eq_getElem hi1] at hc; exact Option.some.inj hc
    have hs2 : r'.drop i = d :: r'.drop (i + 1) := by
      rw [List.drop_eq_getElem_cons hi2]; congr 1
      rw [List.getElem?_eq_getElem hi2] at hd'; exact Option.some.inj hd'
    rw [hs1, hs2] at hdue
    walk_at "mine steps"
    rename Fr _ _ _ _ => F3
    k_dflt (refine ne_dataH (Reads.keeps F3.keep hu2) (Reads.keeps F3.keep hu2') (cell_sh c) (cell_sh d) (by show un + 3 + 64 < cLine; omega) ?_)
    cases hce : cellEq c d with
    | true =>
      have e0 : PyData.eqv (cellD c) (cellD d) = true := hce
      rw [e0]
      walk_at "mine steps"
      rename Fr _ _ _ _ => F4
      rename News _ _ _ _ => N4
      refine TurnPost.go [] F4 N4 (List.forall_mem_nil _) ⟨rfl, rfl, rfl, ?_⟩
      rw [hdue]; simp [dueR, hce]
    | false =>
      have e0 : PyData.eqv (cellD c) (cellD d) = false := hce
      rw [e0]
      walk_at "mine steps"
      rename Fr _ _ _ _ => F4
      rename News _ _ _ _ => N4
      k_dflt (refine eq_dataH (Reads.keeps F4.keep hu2) (reads_list_at (News.get N4 (by k_mem)) rfl rfl ReadsAll.nil) (cell_sh c) (by decide) (by show un + 3 + 64 < cLine; omega) ?_)
      cases c with
      | none =>
        rw [show PyData.eqv (cellD Option.none) (PyData.list []) = true by simp [cellD, PyData.eqv, PyData.eqvAll]]
        walk_at "mine steps"
        rename Fr _ _ _ _ => F5
        rename News _ _ _ _ => N5
        exact hR _ _ _ F5.keep ⟨_, by rw [hdue, show dueR (Option.none :: r.drop (i + 1)) (d :: r'.drop (i + 1)) = Option.none by simp [dueR, hce]]; exact reads_list_at (News.get N5 (by k_mem)) rfl rfl (.cons (.str _ _) (.cons (.str _ _) (.cons (.str _ _) .nil)))⟩
      | some a =>
        rw [show PyData.eqv (cellD (some a)) (PyData.list []) = false by simp [cellD, PyData.eqv, PyData.eqvAll]]
        walk_at "mine steps"
        rename Fr _ _ _ _ => F5
        rename News _ _ _ _ => N5
        k_dflt (refine eq_dataH (Reads.keeps F5.keep hu2') (reads_list_at (News.get N5 (by k_mem)) rfl rfl ReadsAll.nil) (cell_sh d) (by decide) (by show un + 3 + 64 < cLine; omega) ?_)
        cases d with
        | none =>
          rw [show PyData.eqv (cellD Option.none) (PyData.list []) = true by simp [cellD, PyData.eqv, PyData.eqvAll]]
          walk_at "mine steps"
          rename Fr _ _ _ _ => F6
          rename News _ _ _ _ => N6
          exact hR _ _ _ F6.keep ⟨_, by rw [hdue, show dueR (some a :: r.drop (i + 1)) (Option.none :: r'.drop (i + 1)) = Option.none by simp [dueR, hce]]; exact reads_list_at (News.get N6 (by k_mem)) rfl rfl (.cons (.str _ _) (.cons (.str _ _) (.cons (.str _ _) .nil)))⟩
        | some b =>
          rw [show PyData.eqv (cellD (some b)) (PyData.list []) = false by simp [cellD, PyData.eqv, PyData.eqvAll]]
          walk_at "mine steps"
          rename Fr _ _ _ _ => F6
          rename News _ _ _ _ => N6
          exact hR _ _ _ F6.keep ⟨_, by rw [hdue, show dueR (some a :: r.drop (i + 1)) (some b :: r'.drop (i + 1)) = some false by simp [dueR, hce]]; exact reads_list_at (News.get N6 (by k_mem)) rfl rfl (.cons (.bool _) (.cons (.bool _) (.cons (.bool _) .nil)))⟩
  · rintro m1 nw h2 tk2 ⟨e1, e2, rfl, hdue⟩ F2 N2
    clear F1 N1
    walk_at "mine steps"
    rename Fr _ _ _ _ => F6
    rename News _ _ _ _ => N6
    have hsame : dueR r r' = some true := by
      rw [hdue]
      rcases Nat.le_total r.length r'.length with h | h
      · rw [Nat.min_eq_left h, List.drop_length]; simp [dueR]
      · rw [Nat.min_eq_right h, List.drop_length]
        cases r.drop r'.length <;> simp [dueR]
    exact hR _ _ _ F6.keep ⟨_, by rw [hsame]; exact reads_list_at (News.get N6 (by k_mem)) rfl rfl (.cons (.bool _) (.cons (.bool _) (.cons (.bool _) .nil)))⟩
end Mine
end
section
namespace Mine
def lowH (h : Heap) (L : Addr) : Heap := ⟨h.objs.extract 0 L, h.life⟩
theorem lowH_get {h : Heap} {L b : Addr} (hb : b < L) : (lowH h L).get? b = h.get? b := by
  have hb' : @LT.lt Nat _ b L := hb
  have e : (h.objs.extract 0 L)[b]? = h.objs[b]? := by
    rw [Array.getElem?_extract]
    by_cases hs : b < h.objs.size
    · have hs' : @LT.lt Nat _ b h.objs.size := hs
      rw [if_pos (by omega)]; simp
    · have hs' : ¬ @LT.lt Nat _ b h.objs.size := hs
      rw [if_neg (by omega), Array.getElem?_eq_none (by omega)]
  show (match (h.objs.extract 0 L)[b]? with | some ⟨_, _, .freed, _⟩ => Option.none | o => o) = _
  rw [e]; rfl
theorem lowH_size (h : Heap) (L : Addr) : (lowH h L).objs.size ≤ L := by
  show (h.objs.extract 0 L).size ≤ L
  simp; omega
theorem lowH_lt {h : Heap} {L b : Addr} {o : Obj} (e : (lowH h L).get? b = some o) : b < L := Nat.lt_of_lt_of_le (Heap.lt_size e) (lowH_size h L)
abbrev framesOf (l : List Env) : List Addr := l.filterMap (·.frame)
theorem below_all {A : Around} {base h : Heap} {outer : List Env} (B : Below A base outer h) : Below A (hideAll h (framesOf outer)) outer h :=
  ⟨B.stack, fun b o e => of_hideAll _ e, funFrames_hide B.frames fun env he a ha => List.mem_filterMap.mpr ⟨env, he, ha⟩⟩
theorem stays_all {A : Around} {base h : Heap} {outer : List Env} (B : Below A base outer h) : base.StaysIn (hideAll h (framesOf outer)) :=
  fun b o q => hideAll_get _ (B.stays b o q) fun hm => by rw [(B.frames.mem hm).1] at q; cases q

section
variable {w : World} {A₀ : Around} {s' : Shared} {base g h : Heap} {outer : List Env} {L a e : Addr} {m : Str → Option Value} {name : Str} {scope : Scope} {cd : Value} {nw : List (Addr × Obj)}
  {b₀ : Stmt} {suite : List Stmt} {pos np : Pos} {Q : Flow → Shared → Prop} {mean : ExcName → Option Value} {mg mb : Str → Option Value}
/-- the ledger stands when an exception has flown past -/
theorem off_frames (B : Below A₀ base outer g) (N : News g L h nw) : ∀ p ∈ nw, p.1 ∉ framesOf (envOf name scope L a cd :: outer) := by
  intro p hp hm
  obtain ⟨env, he, hf⟩ := List.mem_filterMap.mp hm
  rcases List.mem_cons.mp he with rfl | he
  · exact (N p hp).2.1 (Option.some.inj hf).symm
  · obtain ⟨o, ho, _⟩ := (B.frames.mem (List.mem_filterMap.mpr ⟨env, he, hf⟩)).2
    rw [(N p hp).2.2] at ho; cases ho
theorem caught_fly (B : Below A₀ base outer g) (F : Fr g L h m) (N : News g L h nw) (X : (hd.heap_39 w.params).In base) (T : TopAt mean mg mb base) (hbs : base.objs.size ≤ L)
    (hfl : Fly (hideAll h (framesOf (envOf name scope L a cd :: outer))) (envOf name scope L a cd :: outer) e s'.heap) (hsm : h.UpToSlots s'.heap)
    (k : ∀ g' h', Below A₀ base outer g' → Fr g' L h' m → News g' L h' nw → g.UpToSlots g' →
      wpAny (model PySem.Challenge.rw_dn0319_01.row.toRowW.prog w) ((A₀.deeper (envOf name scope L a cd)).mark (some (.ref e))) (execs (b₀ :: suite) (envOf name scope L a cd)) Q (fun _ _ => False) { s' with heap := h' })
    (hk : scope.kind = .function := by rfl) (hx : (envOf name scope L a cd).kindOf (Str.ofString "AttributeError") = some .globalImplicit := by rfl) :
    wpAny (model PySem.Challenge.rw_dn0319_01.row.toRowW.prog w) (A₀.deeper (envOf name scope L a cd)) (noteFrame (.ref e) (envOf name scope L a cd))
      (fun _ s₂ => wpAny (model PySem.Challenge.rw_dn0319_01.row.toRowW.prog w) (A₀.deeper (envOf name scope L a cd)) (setFlight (.ref e) none) (fun _ s₃ =>
        wpAny (model PySem.Challenge.rw_dn0319_01.row.toRowW.prog w) (A₀.deeper (envOf name scope L a cd)) (handleBy (.ref e) (envOf name scope L a cd) (.ExceptHandler (some (.Name (Str.ofString "AttributeError") np)) none (b₀ :: suite) pos :: [])) Q (fun _ _ => False) s₃) (fun _ _ => False) s₂) (fun _ _ => False) s' := by
  obtain ⟨a0, hfl⟩ := hfl
  have B' := B.push (name := name) (scope := scope) (a := a) (cd := cd) F hk
  have stB := stays_all B'
  refine wpAny_looks_onW (Around.frames_deeper B.stack) rfl hfl fun h₄ hheld₄ hsm₄ => ?_
  refine wpAny_landsW hheld₄ fun h₅ hheld hsm₅ => ?_
  have F₅ : Fr base L h₅ m := ⟨((hsm.trans hsm₄).trans hsm₅).ns F.ns, fun b o e => hheld.1 b o (stB b o e), hbs⟩
  obtain ⟨ob, hob, hobc⟩ := hheld.there
  have hE : PassesOwnAt (model PySem.Challenge.rw_dn0319_01.row.toRowW.prog w) ((A₀.deeper (envOf name scope L a cd)).mark (some (.ref e))) (A₀.deeper (envOf name scope L a cd)) (envOf name scope L a cd) (fun _ _ => False) := PassesOwnAt.never
  refine wpAny_handleBy_builtin (X := "AttributeError") (T := "AttributeError") (b := true) (by rw [isSubtype_type]; kernel_rfl) (by rw [isSubtype_type]; kernel_rfl) (by rw [isSubtype_type]; kernel_rfl)
    (ld_builtin_at F₅ T.g (T.free (Str.ofString "AttributeError") (by decide +kernel) (by decide +kernel) (by decide +kernel) (by decide +kernel) (by decide +kernel)) T.b ((T.builtins _ (by decide +kernel)).trans (by kernel_rfl)) ⟨rfl, ⟨ob, hob, hobc⟩, ?_⟩ hk hx (by decide))
  rw [if_pos rfl]
  refine lands_againW hheld fun h₆ hfl₆ hsm₆ => ?_
  have sm : h.UpToSlots h₆ := ((hsm.trans hsm₄).trans hsm₅).trans hsm₆
  have hg6 : ∀ b o, (hideAll (lowH h₆ L) (nw.map (·.1))).get? b = some o → h₆.get? b = some o := fun b o q => by
    have q1 := of_hideAll _ q
    rw [lowH_get (lowH_lt q1)] at q1; exact q1
  have up : g.UpToSlots (hideAll (lowH h₆ L) (nw.map (·.1))) := by
    intro b o q hnf
    obtain ⟨sl, q6⟩ := sm b o (F.keep b o q) hnf
    refine ⟨sl, hideAll_get _ ?_ ?_⟩
    · rw [lowH_get (Nat.lt_of_lt_of_le (Heap.lt_size q) F.above)]; exact q6
    · intro hm
      obtain ⟨p, hp, rfl⟩ := List.mem_map.mp hm
      rw [(N p hp).2.2] at q; cases q
  have F₆ : Fr (hideAll (lowH h₆ L) (nw.map (·.1))) L h₆ m := ⟨sm.ns F.ns, hg6, Nat.le_trans (Nat.le_of_eq (hideAll_size _ _)) (lowH_size _ _)⟩
  have N₆ : News (hideAll (lowH h₆ L) (nw.map (·.1))) L h₆ nw := fun p hp => ⟨hfl₆.1 _ _ (hideAll_get _ (N p hp).1 (off_frames B N p hp)), (N p hp).2.1, hideAll_none _ (List.mem_map_of_mem hp)⟩
  have B₆ : Below A₀ base outer (hideAll (lowH h₆ L) (nw.map (·.1))) := by
    refine ⟨B.stack, fun b o q => hideAll_get _ ?_ ?_, B.frames.of_keeps fun b o q hnf => ?_⟩
    · rw [lowH_get (Nat.lt_of_lt_of_le (Heap.lt_size q) hbs)]; exact hfl₆.1 _ _ (stB b o q)
    · intro hm
      obtain ⟨p, hp, rfl⟩ := List.mem_map.mp hm
      have := B.stays _ _ q
      rw [(N p hp).2.2] at this; cases this
    · obtain ⟨sl, q6⟩ := up b o q hnf
      exact ⟨_, q6, rfl⟩
  exact wpAny_passesOwnAt hE (k _ h₆ B₆ F₆ N₆ up)
end
end Mine
end
section
namespace Mine
local macro_rules | `(tactic| walk_at "mine step") => `(tactic| first | (k_unfold; (try dsimp only)) | (k_end; wrow_close) | walk1 | (dsimp only; walk1) | (leave1; walk_say "STEP leave1"; try dsimp only) | fail "no step")
local macro_rules | `(tactic| walk_at "mine steps") => `(tactic| repeat' walk_at "mine step")
local macro_rules | `(tactic| walk_at "mine to for") => `(tactic| repeat' ((fail_if_success (with_reducible show wpAny _ _ (PySem.exec (PySem.Stmt.For _ _ _ _ _) _) _ _ _)); walk_at "mine step"))
local macro_rules | `(tactic| walk_at "mine to iter") => `(tactic| repeat' ((fail_if_success (with_reducible show wpAny _ _ (PySem.pyIter _) _ _ _)); walk_at "mine step"))
def ansA : Option Bool → List Atom
  | Option.none => [.str refusedS (by decide +kernel), .str refusedS (by decide +kernel), .str refusedS (by decide +kernel)]
  | some b => [.bool b, .bool b, .bool !b]
local macro_rules | `(tactic| walk_at "call builtin:list.append") => `(tactic| (k_here; (with_reducible show wpAny _ _ (call (Value.builtin _) [Value.ref _, _]) _ _ _); k_dflt (refine' append_K ?k1 ?k2 ?k3 ?_ ?z; (case k1 => k_asm); (case k2 => k_asm); (case k3 => k_upd); (case z => (refine Nat.le_trans (m := 1000) ?_ (by decide); simp only [List.size_toArray]; omega)); k_whole); intro h' F' N'; (try k_sweep)))
theorem take_next {α : Type} {l : List α} {i : Nat} {a : α} (h : l[i]? = some a) : l.take (i + 1) = l.take i ++ [a] := by
  rw [List.take_add_one, h]; rfl
theorem told_call {w : World} {dp un : Nat} {outer : List Env} {base : Heap} {gd : Option (List Code)} {s : Shared} {mean : ExcName → Option Value} {mg mb : Str → Option Value}
    {R : Result → Shared → Prop} {v v' : Value} {t x' y' z' : Tree}
    (X : (hd.heap_39 w.params).In base) (T : TopAt mean mg mb base) (hd : dp + (t.size + (Tree.node x' y' z').size) + 20 < recursionLimit) (hu : un + 10 * (t.size + (Tree.node x' y' z').size) + 200 < cLine)
    (B : Below (ar dp un gd outer) base outer s.heap) (hbs : base.objs.size ≤ s.heap.objs.size) (hv : TreeH base v t) (hv' : TreeH base v' (.node x' y' z'))
    (hR : ∀ q h' tk, base.StaysIn h' → s.heap.UpToSlots h' → (∃ qs, Reads h' q (dueD (cmpT t (.node x' y' z'))) qs) → R (.ok (.ret q)) { s with heap := h', toks := tk }) :
    codeAny (model PySem.Challenge.rw_dn0319_01.row.toRowW.prog w) (ar dp un gd outer) (.call (.ref 80) ⟨[v, v'], []⟩) R s := by
  have hne : Asks w mean mg mb (compareOp .NotEq) true t (.node x' y' z') 101 := by
    cases t with
    | leaf a => exact ne_leaf a x' y' z'
    | node x y z => exact ne_node x y z _
  revert X; k_fill; intro X
  have Xs := X.keeps B.stays
  have Ts := T.keeps B.stays
  k_dflt (refine' enter0 Xs Ts.nolimit ?k6 ?k7 ?k8 ?k9 ?kB ?_ ?c2 ?c3 ?c4 ?c5; (case k6 => k_is); (case k7 => k_is); (case k8 => (dsimp only; omega)); (case k9 => exact BindsTo.of_eq rfl); (case c5 => decide); (case kB => exact locs rfl); (case c2 => exact rfl); (case c3 => exact rfl); (case c4 => exact rfl); k_whole; intro h' L' F' N')
  refine wpAny_noRaise ?_
  k_fold
  walk_at "mine to for"
  k_dflt (refine wpAny_For ?_ (fun _ => rfl))
  walk_at "mine to iter"
  rename IsRange _ _ _ _ _ _ _ _ => hrng
  rename Fr _ _ _ _ => F1
  rename News _ _ _ _ => N1
  k_dflt (refine rangeB (n := 3) rfl hrng (by omega) rfl rfl F1 N1 (fun i g m nw => Below (ar dp un gd outer) base outer g ∧ s.heap.UpToSlots g ∧ m (Str.ofString "thing") = some v ∧ m (Str.ofString "other") = some v' ∧ ∃ (aT : Addr) (us : List Value) (k : Nat), m (Str.ofString "told") = some (.ref aT) ∧ nw = [(aT, W.listOf us.toArray k)] ∧ Paired IsAtom us ((ansA (cmpT t (.node x' y' z'))).take i)) ⟨B, Heap.UpToSlots.refl _, rfl, rfl, _, [], 0, rfl, rfl, by simpa using Paired.nil⟩ ?_ ?_)
  · rintro i tk1 g m1 nw I it h2 tk2 hi ⟨Bg, ug, e1, e2, aT, us, k, e3, rfl, hp⟩ hoff F2 N2
    have hTI := neN (hoff _ (List.mem_cons_self ..))
    dsimp only at hTI
    clear F1 N1 Xs Ts
    have Xg := X.keeps Bg.stays
    have Tg := T.keeps Bg.stays
    have hL : base.objs.size ≤ L' := Nat.le_trans hbs (by rename Fr s.heap _ _ _ => F0; exact F0.above)
    have hlen : us.length ≤ 3 := by
      have h1 := Paired.len hp
      have h2 : ((ansA (cmpT t (.node x' y' z'))).take i).length ≤ i := List.length_take_le ..
      omega
    have hcase : i = 0 ∨ i = 1 ∨ i = 2 := by omega
    rcases hcase with rfl | rfl | rfl
    · replace F2 := fr_known [(Str.ofString "way", .int 0 tk1), (Str.ofString "thing", _), (Str.ofString "other", _), (Str.ofString "told", _)] F2 (by simp only [List.forall_mem_cons]; exact ⟨rfl, e1, e2, e3, List.forall_mem_nil _⟩)
      simp only [known] at F2
      walk_at "mine steps"
      rename Fr g _ _ _ => F3
      rename News g _ _ _ => N3
      k_dflt (refine eq_tree t (.node x' y' z') (dp + 1) (un + 3) gd (_ :: outer) (hideAll _ (framesOf (_ :: outer))) _ _ _ _ _ (Xg.keeps F3.keep) (Tg.keeps F3.keep) (by omega) (by omega) (below_all (Bg.push F3)) (hv.mono (stays_all (Bg.push F3))) (hv'.mono (stays_all (Bg.push F3))) ?_ ?_)
      · intro b h4 tk4 hb hk4
        have hc : cmpT t (.node x' y' z') = some b := hb
        replace F3 := F3.keeps hk4
        replace N3 := N3.grown hk4
        walk_at "mine steps"
        rename Fr g _ _ _ => F4
        rename News g _ _ _ => N4
        rw [List.push_toArray] at N4
        refine TurnB.go _ F4 N4 (by intro p hp; rw [List.mem_singleton.mp hp]; exact hTI) ⟨Bg, ug, rfl, rfl, aT, _, _, rfl, rfl, ?_⟩
        rw [hc] at hp ⊢
        rw [take_next (i := 0) (a := .bool b) rfl]
        refine Paired.snoc hp ?_
        simpa using IsAtom.bool b
      · intro e h4 tk4 hb f4 u4
        have hc : cmpT t (.node x' y' z') = Option.none := hb
        refine caught_fly Bg F3 N3 X T hL f4 u4 fun g5 h5 B5 F5 N5 up5 => ?_
        clear F3 N3 Xg Tg
        have Xg := X.keeps B5.stays
        have Tg := T.keeps B5.stays
        walk_at "mine steps"
        rename Fr g5 _ _ _ => F4
        rename News g5 _ _ _ => N4
        rw [List.push_toArray] at N4
        refine TurnB.go _ F4 N4 (by intro p hp; rw [List.mem_singleton.mp hp]; exact hTI) ⟨B5, ug.trans up5, rfl, rfl, aT, _, _, rfl, rfl, ?_⟩
        rw [hc] at hp ⊢
        rw [take_next (i := 0) (a := .str refusedS (by decide +kernel)) rfl]
        exact Paired.snoc hp (.str _ _ _)
    · replace F2 := fr_known [(Str.ofString "way", .int 1 tk1), (Str.ofString "thing", _), (Str.ofString "other", _), (Str.ofString "told", _)] F2 (by simp only [List.forall_mem_cons]; exact ⟨rfl, e1, e2, e3, List.forall_mem_nil _⟩)
      simp only [known] at F2
      walk_at "mine steps"
      rename Fr g _ _ _ => F3
      rename News g _ _ _ => N3
      k_dflt (refine eq_tree (.node x' y' z') t (dp + 1) (un + 3) gd (_ :: outer) (hideAll _ (framesOf (_ :: outer))) _ _ _ _ _ (Xg.keeps F3.keep) (Tg.keeps F3.keep) (by omega) (by omega) (below_all (Bg.push F3)) (hv'.mono (stays_all (Bg.push F3))) (hv.mono (stays_all (Bg.push F3))) ?_ ?_)
      · intro b h4 tk4 hb hk4
        have hc : cmpT t (.node x' y' z') = some b := (cmpT_symm _ _).trans hb
        replace F3 := F3.keeps hk4
        replace N3 := N3.grown hk4
        walk_at "mine steps"
        rename Fr g _ _ _ => F4
        rename News g _ _ _ => N4
        rw [List.push_toArray] at N4
        refine TurnB.go _ F4 N4 (by intro p hp; rw [List.mem_singleton.mp hp]; exact hTI) ⟨Bg, ug, rfl, rfl, aT, _, _, rfl, rfl, ?_⟩
        rw [hc] at hp ⊢
        rw [take_next (i := 1) (a := .bool b) rfl]
        refine Paired.snoc hp ?_
        simpa using IsAtom.bool b
      · intro e h4 tk4 hb f4 u4
        have hc : cmpT t (.node x' y' z') = Option.none := (cmpT_symm _ _).trans hb
        refine caught_fly Bg F3 N3 X T hL f4 u4 fun g5 h5 B5 F5 N5 up5 => ?_
        clear F3 N3 Xg Tg
        have Xg := X.keeps B5.stays
        have Tg := T.keeps B5.stays
        walk_at "mine steps"
        rename Fr g5 _ _ _ => F4
        rename News g5 _ _ _ => N4
        rw [List.push_toArray] at N4
        refine TurnB.go _ F4 N4 (by intro p hp; rw [List.mem_singleton.mp hp]; exact hTI) ⟨B5, ug.trans up5, rfl, rfl, aT, _, _, rfl, rfl, ?_⟩
        rw [hc] at hp ⊢
        rw [take_next (i := 1) (a := .str refusedS (by decide +kernel)) rfl]
        exact Paired.snoc hp (.str _ _ _)
    · replace F2 := fr_known [(Str.ofString "way", .int 2 tk1), (Str.ofString "thing", _), (Str.ofString "other", _), (Str.ofString "told", _)] F2 (by simp only [List.forall_mem_cons]; exact ⟨rfl, e1, e2, e3, List.forall_mem_nil _⟩)
      simp only [known] at F2
      walk_at "mine steps"
      rename Fr g _ _ _ => F3
      rename News g _ _ _ => N3
      k_dflt (refine hne (dp + 1) (un + 3) gd (_ :: outer) (hideAll _ (framesOf (_ :: outer))) _ _ _ _ _ (Xg.keeps F3.keep) (Tg.keeps F3.keep) (by omega) (by omega) (below_all (Bg.push F3)) (hv.mono (stays_all (Bg.push F3))) (hv'.mono (stays_all (Bg.push F3))) ?_ ?_)
      · intro b h4 tk4 hb hk4
        have hc : cmpT t (.node x' y' z') = some b := hb
        replace F3 := F3.keeps hk4
        replace N3 := N3.grown hk4
        walk_at "mine steps"
        rename Fr g _ _ _ => F4
        rename News g _ _ _ => N4
        rw [List.push_toArray] at N4
        refine TurnB.go _ F4 N4 (by intro p hp; rw [List.mem_singleton.mp hp]; exact hTI) ⟨Bg, ug, rfl, rfl, aT, _, _, rfl, rfl, ?_⟩
        rw [hc] at hp ⊢
        rw [take_next (i := 2) (a := .bool !b) rfl]
        refine Paired.snoc hp ?_
        simpa using IsAtom.bool (!b)
      · intro e h4 tk4 hb f4 u4
        have hc : cmpT t (.node x' y' z') = Option.none := hb
        refine caught_fly Bg F3 N3 X T hL f4 u4 fun g5 h5 B5 F5 N5 up5 => ?_
        clear F3 N3 Xg Tg
        have Xg := X.keeps B5.stays
        have Tg := T.keeps B5.stays
        walk_at "mine steps"
        rename Fr g5 _ _ _ => F4
        rename News g5 _ _ _ => N4
        rw [List.push_toArray] at N4
        refine TurnB.go _ F4 N4 (by intro p hp; rw [List.mem_singleton.mp hp]; exact hTI) ⟨B5, ug.trans up5, rfl, rfl, aT, _, _, rfl, rfl, ?_⟩
        rw [hc] at hp ⊢
        rw [take_next (i := 2) (a := .str refusedS (by decide +kernel)) rfl]
        exact Paired.snoc hp (.str _ _ _)
  · rintro g m1 nw h2 tk2 ⟨Bg, ug, e1, e2, aT, us, k, e3, rfl, hp⟩ F2 N2
    replace F2 := fr_known [(Str.ofString "told", _)] F2 (by simp only [List.forall_mem_cons]; exact ⟨e3, List.forall_mem_nil _⟩)
    simp only [known] at F2
    clear F1 N1 Xs Ts
    have Xg := X.keeps Bg.stays
    have Tg := T.keeps Bg.stays
    walk_at "mine steps"
    refine hR _ _ _ (fun b o q => F2.keep b o (Bg.stays b o q)) (ug.trans (Heap.UpToSlots.of_keeps F2.keep)) ?_
    have hN := News.get N2 (List.mem_cons_self ..)
    cases hc : cmpT t (.node x' y' z') with
    | none =>
      rw [hc] at hp
      cases hp with | cons a1 hp =>
      cases hp with | cons a2 hp =>
      cases hp with | cons a3 hp =>
      cases hp
      exact ⟨_, reads_list_at hN rfl rfl (.cons (a1.reads _) (.cons (a2.reads _) (.cons (a3.reads _) .nil)))⟩
    | some b =>
      rw [hc] at hp
      cases hp with | cons a1 hp =>
      cases hp with | cons a2 hp =>
      cases hp with | cons a3 hp =>
      cases hp
      exact ⟨_, reads_list_at hN rfl rfl (.cons (a1.reads _) (.cons (a2.reads _) (.cons (a3.reads _) .nil)))⟩
end Mine
end
section
namespace Mine
/-- a cell, a row: lists of the ledger -/
def CellP (G : Addr → Obj → Prop) (u : Value) (c : Option Atom) : Prop := ∃ b ws k, u = .ref b ∧ G b (W.listOf (List.toArray ws) k) ∧ Paired IsAtom ws c.toList
def RowP (G : Addr → Obj → Prop) (v : Value) (r : Row) : Prop := ∃ a us k, v = .ref a ∧ G a (W.listOf (List.toArray us) k) ∧ Paired (CellP G) us r
theorem CellP.mono {G G' : Addr → Obj → Prop} {v : Value} {c : Option Atom} (h : CellP G v c) (k : ∀ a o, G a o → G' a o) : CellP G' v c := by
  obtain ⟨b, ws, n, e, g, p⟩ := h
  exact ⟨b, ws, n, e, k _ _ g, p⟩
theorem RowP.mono {G G' : Addr → Obj → Prop} {v : Value} {r : Row} (h : RowP G v r) (k : ∀ a o, G a o → G' a o) : RowP G' v r := by
  obtain ⟨b, ws, n, e, g, p⟩ := h
  exact ⟨b, ws, n, e, k _ _ g, Paired.mono' p fun _ _ q => q.mono k⟩
theorem cell_reads {h : Heap} {v : Value} {c : Option Atom} (p : CellP (fun a o => h.get? a = some o) v c) : ∃ as, Reads h v (cellD c) as := by
  obtain ⟨b, ws, n, rfl, g, p⟩ := p
  cases c with
  | none => cases p; exact ⟨_, reads_list_at g rfl rfl .nil⟩
  | some a =>
    cases p with | cons q p =>
    cases p
    exact ⟨_, reads_list_at g rfl rfl (.cons (q.reads _) .nil)⟩
theorem cells_reads {h : Heap} {vs : List Value} {r : Row} (p : Paired (CellP (fun a o => h.get? a = some o)) vs r) : ∃ as, ReadsAll h vs (r.map cellD) as := by
  induction p with
  | nil => exact ⟨_, .nil⟩
  | cons q _ ih =>
    obtain ⟨as, r1⟩ := cell_reads q
    obtain ⟨bs, r2⟩ := ih
    exact ⟨_, .cons r1 r2⟩
theorem row_reads {h : Heap} {v : Value} {r : Row} (p : RowP (fun a o => h.get? a = some o) v r) : ∃ as, Reads h v (rowD r) as := by
  obtain ⟨b, ws, n, rfl, g, p⟩ := p
  obtain ⟨as, q⟩ := cells_reads p
  exact ⟨_, reads_list_at g rfl rfl q⟩
/-- the objects of a tree, as a ledger -/
theorem tree_ledger {G : Addr → Obj → Prop} {v : Value} {t : Tree} (h : TreeP G v t) : ∃ tl : List (Addr × Obj), (∀ p ∈ tl, G p.1 p.2) ∧ TreeP (fun a o => (a, o) ∈ tl) v t := by
  induction h with
  | leaf e => exact ⟨[], List.forall_mem_nil _, .leaf e⟩
  | @node x dx a b c t1 t2 t3 g1 g2 _ _ _ i1 i2 i3 =>
    obtain ⟨l1, a1, b1⟩ := i1
    obtain ⟨l2, a2, b2⟩ := i2
    obtain ⟨l3, a3, b3⟩ := i3
    refine ⟨(x, nodeObj dx a b c) :: (dx, dictOf [] 0) :: (l1 ++ (l2 ++ l3)), ?_, .node (.head _) (.tail _ (.head _)) (b1.mono ?_) (b2.mono ?_) (b3.mono ?_)⟩
    · intro p hp
      simp only [List.mem_cons, List.mem_append] at hp
      rcases hp with rfl | rfl | hp | hp | hp
      · exact g1
      · exact g2
      · exact a1 p hp
      · exact a2 p hp
      · exact a3 p hp
    · intro a o m; exact .tail _ (.tail _ (List.mem_append_left _ m))
    · intro a o m; exact .tail _ (.tail _ (List.mem_append_right _ (List.mem_append_left _ m)))
    · intro a o m; exact .tail _ (.tail _ (List.mem_append_right _ (List.mem_append_right _ m)))
theorem paired_get {α β : Type} {P : α → β → Prop} {l : List α} {k : List β} (h : Paired P l k) : ∀ (i : Nat) (b : β), k[i]? = some b → ∃ a, l[i]? = some a ∧ P a b := by
  induction h with
  | nil => intro i b e; simp at e
  | cons p _ ih =>
    intro i b e
    cases i with
    | zero => simp at e; subst e; exact ⟨_, rfl, p⟩
    | succ i => simpa using ih i b (by simpa using e)
theorem paired_take {α β : Type} {P : α → β → Prop} {l : List α} {k : List β} (h : Paired P l k) : ∀ n, Paired P (l.take n) (k.take n) := by
  induction h with
  | nil => intro n; simpa using Paired.nil
  | cons p _ ih =>
    intro n
    cases n with
    | zero => simpa using Paired.nil
    | succ n => simpa using .cons p (ih n)
theorem paired_drop {α β : Type} {P : α → β → Prop} {l : List α} {k : List β} (h : Paired P l k) : ∀ n, Paired P (l.drop n) (k.drop n) := by
  induction h with
  | nil => intro n; simpa using Paired.nil
  | cons p q ih =>
    intro n
    cases n with
    | zero => simpa using .cons p q
    | succ n => simpa using ih n
theorem paired_append {α β : Type} {P : α → β → Prop} {l l' : List α} {k k' : List β} (h : Paired P l k) (h' : Paired P l' k') : Paired P (l ++ l') (k ++ k') := by
  induction h with
  | nil => simpa using h'
  | cons p _ ih => simpa using .cons p ih
section
variable {w : World} {mean : ExcName → Option Value} {mg mb : Str → Option Value} {dp un : Nat} {gd : Option (List Code)} {outer : List Env} {base h₀ : Heap} {L : Addr} {m : Str → Option Value} {news : List (Addr × Obj)} {s : Shared} {Q E : Value → Shared → Prop}
/-- new objects, put onto the ledger -/
theorem news_more {h' : Heap} {tl : List (Addr × Obj)} (F : Fr h₀ L s.heap m) (N : News h₀ L s.heap news) (hk : ∀ b o, s.heap.get? b = some o → h'.get? b = some o) (ht : ∀ p ∈ tl, h'.get? p.1 = some p.2 ∧ s.heap.get? p.1 = none) :
    News h₀ L h' (tl ++ news) ∧ ∀ p ∈ tl, ∀ q ∈ news, p.1 ≠ q.1 := by
  refine ⟨fun p hp => ?_, fun p hp q hq e => ?_⟩
  · rcases List.mem_append.mp hp with hp | hp
    · obtain ⟨h1, h2⟩ := ht p hp
      obtain ⟨o, _, _, ho, _⟩ := F.ns
      refine ⟨h1, (fun e => by rw [e, ho] at h2; cases h2), ?_⟩
      cases q : h₀.get? p.1 with
      | none => rfl
      | some o => rw [F.keep _ _ q] at h2; cases h2
    · exact (N.grown hk) p hp
  · have h1 := (ht p hp).2
    rw [e, (N q hq).1] at h1; cases h1
theorem use_made {v : Value} {t : Tree} (X : (hd.heap_39 w.params).In h₀) (T : TopAt mean mg mb h₀) (hd : dp + 10 < recursionLimit) (hu : un + 100 < cLine) (B : Below (ar dp un gd outer) base outer s.heap) (F : Fr h₀ L s.heap m) (N : News h₀ L s.heap news)
    (hr : RowP (fun a o => (a, o) ∈ news) v (flat t)) (hlen : (flat t).length < 1000)
    (k : ∀ r tl h' tk, Fr h₀ L h' m → News h₀ L h' (tl ++ news) → (∀ p ∈ tl, ∀ q ∈ news, p.1 ≠ q.1) → TreeP (fun a o => (a, o) ∈ tl) r t → Q r { s with heap := h', toks := tk }) :
    wpAny (model PySem.Challenge.rw_dn0319_01.row.toRowW.prog w) (ar dp un gd outer) (call (.ref 59) [v]) Q E s := by
  obtain ⟨as, hr⟩ := row_reads (h := s.heap) (hr.mono fun a o q => (N _ q).1)
  refine wpAny_call (made_call (X.keeps F.keep) (T.keeps F.keep) hd hu B hr hlen fun r h' tk hk ht => ?_)
  obtain ⟨tl, h1, h2⟩ := tree_ledger ht
  obtain ⟨N', off⟩ := news_more F N hk h1
  exact k r tl h' tk (F.keeps hk) N' off h2
end
theorem off1_mem {D : Addr} : ∀ {l : List (Addr × Obj)}, LCg.Off1 D l → ∀ p ∈ l, p.1 ≠ D
  | [], _, _, h => nomatch h
  | _ :: _, x, p, h => by
    rcases List.mem_cons.mp h with rfl | h
    · exact x.1
    · exact off1_mem x.2 p h
section
variable {w : World} {mean : ExcName → Option Value} {mg mb : Str → Option Value} {dp un : Nat} {gd : Option (List Code)} {h₀ : Heap} {L a : Addr} {m : Str → Option Value} {news : List (Addr × Obj)} {s : Shared} {Q E : Value → Shared → Prop} {name : Str} {scope : Scope} {cd : Value}
theorem use_end {fr : Option (List Env)} {v : Value} {row : Row} {p : Nat} {t : Tok} {x : Tree} {rest : Row} (X : (hd.heap_39 w.params).In h₀) (T : TopAt mean mg mb h₀) (hd : dp + 10 < recursionLimit) (hu : un + 100 < cLine) (F : Fr h₀ L s.heap m) (N : News h₀ L s.heap news)
    (hr : RowP (fun a o => (a, o) ∈ news) v row) (hlen : row.length < 1000) (hx : row.drop p = flat x ++ rest)
    (k : ∀ h' t' tk, Fr h₀ L h' m → News h₀ L h' news → Q (.int ((p + (flat x).length : Nat) : Int) t') { s with heap := h', toks := tk }) :
    wpAny (model PySem.Challenge.rw_dn0319_01.row.toRowW.prog w) { handled := none, depth := dp, frames := fr, guards := gd, units := un } (call (.ref 66) [v, .int (p : Int) t]) Q E s := by
  obtain ⟨as, hr⟩ := row_reads (h := s.heap) (hr.mono fun a o q => (N _ q).1)
  exact wpAny_call (end_call (X.keeps F.keep) (T.keeps F.keep) hd hu hr hlen hx fun h' t' tk hk => k h' t' tk (F.keeps hk) (N.grown hk))
theorem use_due {fr : Option (List Env)} {v v' : Value} {r r' : Row} (X : (hd.heap_39 w.params).In h₀) (T : TopAt mean mg mb h₀) (hd : dp + 10 < recursionLimit) (hu : un + 100 < cLine) (F : Fr h₀ L s.heap m) (N : News h₀ L s.heap news)
    (hr : RowP (fun a o => (a, o) ∈ news) v r) (hr' : RowP (fun a o => (a, o) ∈ news) v' r') (hlen : r.length < 1000) (hlen' : r'.length < 1000)
    (k : ∀ q h' tk, Fr h₀ L h' m → News h₀ L h' news → (∃ qs, Reads h' q (dueD (dueR r r')) qs) → Q q { s with heap := h', toks := tk }) :
    wpAny (model PySem.Challenge.rw_dn0319_01.row.toRowW.prog w) { handled := none, depth := dp, frames := fr, guards := gd, units := un } (call (.ref 73) [v, v']) Q E s := by
  obtain ⟨as, hr⟩ := row_reads (h := s.heap) (hr.mono fun a o q => (N _ q).1)
  obtain ⟨as', hr'⟩ := row_reads (h := s.heap) (hr'.mono fun a o q => (N _ q).1)
  exact wpAny_call (due_call (X.keeps F.keep) (T.keeps F.keep) hd hu hr hr' hlen hlen' fun q h' tk hk hq => k q h' tk (F.keeps hk) (N.grown hk) hq)
theorem use_told {v v' : Value} {t x' y' z' : Tree} (X : (hd.heap_39 w.params).In h₀) (T : TopAt mean mg mb h₀) (hd : dp + 1 + (t.size + (Tree.node x' y' z').size) + 20 < recursionLimit) (hu : un + 3 + 10 * (t.size + (Tree.node x' y' z').size) + 200 < cLine)
    (B : Below (ar dp un gd []) h₀ [] h₀) (F : Fr h₀ L s.heap m) (N : News h₀ L s.heap news) (hv : TreeP (fun a o => (a, o) ∈ news) v t) (hv' : TreeP (fun a o => (a, o) ∈ news) v' (.node x' y' z'))
    (k : ∀ q h' tk, Fr h₀ L h' m → News h₀ L h' news → (∃ qs, Reads h' q (dueD (cmpT t (.node x' y' z'))) qs) → Q q { s with heap := h', toks := tk }) (hk : scope.kind = .function := by rfl) :
    wpAny (model PySem.Challenge.rw_dn0319_01.row.toRowW.prog w) ((ar dp un gd []).deeper (envOf name scope L a cd)) (call (.ref 80) [v, v']) Q E s := by
  have B' := B.push (name := name) (scope := scope) (a := a) (cd := cd) F hk
  have hst := stays_all B'
  have hin : ∀ p ∈ news, (hideAll s.heap (framesOf [envOf name scope L a cd])).get? p.1 = some p.2 := fun p hp => hideAll_get _ (N p hp).1 (off_frames B N p hp)
  refine wpAny_call ?_
  show codeAny _ (ar (dp + 1) (un + 3) gd [envOf name scope L a cd]) _ _ _
  refine told_call (X.keeps hst) (T.keeps hst) hd hu (below_all B') (Nat.le_of_eq (hideAll_size _ _)) (hv.mono fun a o q => hin _ q) (hv'.mono fun a o q => hin _ q) fun q h' tk st sm hq => ?_
  exact k q h' tk ⟨sm.ns F.ns, fun b o e => st b o (hst b o e), F.above⟩ (fun p hp => ⟨st _ _ (hin p hp), (N p hp).2⟩) hq
theorem use_repr {A : Around} {v : Value} {o : Option Bool} {prog : Program} (F : Fr h₀ L s.heap m) (N : News h₀ L s.heap news) (hr : ∃ qs, Reads s.heap v (dueD o) qs) (hg : A.guards = some []) (hu : A.units + 10 < cLine)
    (k : ∀ h' u tk, Fr h₀ L h' m → News h₀ L h' news → Q (.str (dueD o).shown u) { s with heap := h', toks := tk }) : wpAny (model prog w) A (call (.builtin "repr") [v]) Q E s := by
  obtain ⟨qs, r⟩ := hr
  have hd : isDisplay (dueD o) = true := by cases o <;> rfl
  obtain ⟨b, rfl⟩ := isRef_of_reads r hd
  refine repr_of_reads' r ?_ (PyData.noDict_hsm ?_) hg ?_ (fun _ _ e => e) (fun h' u tk hk => k h' u tk (F.keeps hk) (N.grown hk)) ?_
  · cases o with
    | none => decide +kernel
    | some b => cases b <;> decide +kernel
  · cases o with
    | none => decide +kernel
    | some b => cases b <;> decide +kernel
  · have : (dueD o).depth ≤ 2 := by
      cases o with
      | none => decide +kernel
      | some b => cases b <;> decide +kernel
    omega
  · cases o with
    | none => decide +kernel
    | some b => cases b <;> decide +kernel
end
theorem pick_mid {us : List Value} {a b : Nat} (ha : a ≤ us.length) (hb : b ≤ us.length) : kms_pick us (some (a : Int)) (some (b : Int)) = (us.drop a).take (b - a) := by
  have h1 : ¬ ((a : Int) < 0) := by omega
  have h2 : ¬ ((b : Int) < 0) := by omega
  simp only [kms_pick, kms_lo, kms_hi, if_neg h1, if_neg h2, Int.toNat_natCast, Nat.min_eq_left ha, Nat.min_eq_left hb]
theorem pick_to {us : List Value} {b : Nat} (hb : b ≤ us.length) : kms_pick us none (some (b : Int)) = us.take b := by
  have h2 : ¬ ((b : Int) < 0) := by omega
  simp only [kms_pick, kms_lo, kms_hi, if_neg h2, Int.toNat_natCast, Nat.min_eq_left hb, List.drop_zero, Nat.sub_zero]
theorem pick_from {us : List Value} {a : Nat} (ha : a ≤ us.length) : kms_pick us (some (a : Int)) none = us.drop a := by
  have h1 : ¬ ((a : Int) < 0) := by omega
  simp only [kms_pick, kms_lo, kms_hi, if_neg h1, Int.toNat_natCast, Nat.min_eq_left ha]
  rw [List.take_of_length_le]; simp
theorem regroup2 {h₀ h : Heap} {L : Addr} {e1 e2 i r m : Addr × Obj} {old : List (Addr × Obj)} (N : News h₀ L h (e1 :: e2 :: i :: r :: m :: old)) (hi : ∀ p ∈ old, p.1 ≠ i.1) (hr : ∀ p ∈ old, p.1 ≠ r.1) (hm : ∀ p ∈ old, p.1 ≠ m.1)
    (a1 : e1.1 ≠ i.1 ∧ e1.1 ≠ r.1 ∧ e1.1 ≠ m.1) (a2 : e2.1 ≠ i.1 ∧ e2.1 ≠ r.1 ∧ e2.1 ≠ m.1) :
    ∃ old2, (∀ p ∈ old, p ∈ old2) ∧ e1 ∈ old2 ∧ e2 ∈ old2 ∧ News h₀ L h (i :: r :: m :: old2) ∧ (∀ p ∈ old2, p.1 ≠ i.1) ∧ (∀ p ∈ old2, p.1 ≠ r.1) ∧ (∀ p ∈ old2, p.1 ≠ m.1) := by
  refine ⟨e1 :: e2 :: old, fun p hp => .tail _ (.tail _ hp), .head _, .tail _ (.head _), news_sub N ?_, ?_, ?_, ?_⟩
  · intro p hp; simp only [List.mem_cons] at hp ⊢; grind
  · intro p hp
    simp only [List.mem_cons] at hp
    rcases hp with rfl | rfl | hp
    · exact a1.1
    · exact a2.1
    · exact hi p hp
  · intro p hp
    simp only [List.mem_cons] at hp
    rcases hp with rfl | rfl | hp
    · exact a1.2.1
    · exact a2.2.1
    · exact hr p hp
  · intro p hp
    simp only [List.mem_cons] at hp
    rcases hp with rfl | rfl | hp
    · exact a1.2.2
    · exact a2.2.2
    · exact hm p hp
theorem part_abs {h₀ h : Heap} {L D : Addr} {m : Str → Option Value} {x : Str} {zs : List Value} {k : Nat} {r : Row} {G : Addr → Obj → Prop} (_F : Fr h₀ L h m) (e : m x = some (.ref D)) (hm : G D (W.listOf zs.toArray k)) (hp : Paired (CellP G) zs r) :
    ∃ pv, m x = some pv ∧ RowP G pv r := ⟨_, e, _, _, _, rfl, hm, hp⟩
theorem plain_abs {h₀ h : Heap} {L D : Addr} {m : Str → Option Value} {x : Str} {zs : List Value} {k : Nat} {G : Addr → Obj → Prop} (_F : Fr h₀ L h m) (e : m x = some (.ref D)) (hm : G D (W.listOf zs.toArray k)) (hp : ∃ as, as.length = 6 ∧ Paired IsAtom zs as) :
    ∃ aP zs k, m x = some (.ref aP) ∧ G aP (W.listOf (List.toArray zs) k) ∧ ∃ as : List Atom, as.length = 6 ∧ Paired IsAtom zs as := ⟨_, _, _, e, hm, hp⟩
/-- several ways meet -/
def Joined (P : Shared → Prop) (f : Flow) (s' : Shared) : Prop := f = .next ∧ P s'
theorem Joined.mk {P : Shared → Prop} {s' : Shared} (h : P s') : Joined P .next s' := ⟨rfl, h⟩
theorem join {M : Model} {A : Around} {t : Sem Flow} {Q : Flow → Shared → Prop} {E : Value → Shared → Prop} {s : Shared} (P : Shared → Prop) (h : wpAny M A t (Joined P) E s) (k : ∀ s', P s' → Q .next s') : wpAny M A t Q E s :=
  wpAny_mono h (fun f s' x => by obtain ⟨rfl, x⟩ := x; exact k s' x) (fun _ _ x => x)
theorem add_K {prog : Program} {w : World} {A : Around} {E : Value → Shared → Prop} {s : Shared} {h₀ : Heap} {L l b : Addr} {m : Str → Option Value} {news : List (Addr × Obj)} {vs ws : List Value} {Q : Value → Shared → Prop}
    (F : Fr h₀ L s.heap m) (N : News h₀ L s.heap news) (hl : s.heap.IsList l vs.toArray) (hb : s.heap.IsList b ws.toArray)
    (h : ∀ D h', Fr h₀ L h' m → News h₀ L h' ((D, W.listOf (vs ++ ws).toArray 0) :: news) → (∀ p ∈ news, p.1 < D) → Q (.ref D) { s with heap := h' }) (hsz : vs.length + ws.length ≤ sizeLine) :
    wpAny (model prog w) A (binaryOp .Add (.ref l) (.ref b)) Q E s :=
  add_lists F N hl hb (fun h' F' N' => h _ h' F' N' fun p hp => Heap.lt_size (N p hp).1) hsz
theorem regroupN {h₀ h : Heap} {L : Addr} {i r m : Addr × Obj} {es old : List (Addr × Obj)} (N : News h₀ L h (es ++ i :: r :: m :: old)) (hi : ∀ p ∈ old, p.1 ≠ i.1) (hr : ∀ p ∈ old, p.1 ≠ r.1) (hm : ∀ p ∈ old, p.1 ≠ m.1)
    (a : ∀ e ∈ es, e.1 ≠ i.1 ∧ e.1 ≠ r.1 ∧ e.1 ≠ m.1) :
    ∃ old2, (∀ p ∈ old, p ∈ old2) ∧ (∀ p ∈ es, p ∈ old2) ∧ News h₀ L h (i :: r :: m :: old2) ∧ (∀ p ∈ old2, p.1 ≠ i.1) ∧ (∀ p ∈ old2, p.1 ≠ r.1) ∧ (∀ p ∈ old2, p.1 ≠ m.1) := by
  refine ⟨es ++ old, fun p hp => List.mem_append_right _ hp, fun p hp => List.mem_append_left _ hp, news_sub N ?_, ?_, ?_, ?_⟩
  · intro p hp; simp only [List.mem_cons, List.mem_append] at hp ⊢; grind
  · intro p hp
    rcases List.mem_append.mp hp with hp | hp
    · exact (a p hp).1
    · exact hi p hp
  · intro p hp
    rcases List.mem_append.mp hp with hp | hp
    · exact (a p hp).2.1
    · exact hr p hp
  · intro p hp
    rcases List.mem_append.mp hp with hp | hp
    · exact (a p hp).2.2
    · exact hm p hp
theorem pick_len (us : List Value) (lo hi : Option Int) : (kms_pick us lo hi).length ≤ us.length := by
  unfold kms_pick
  simp only [List.length_take, List.length_drop]; omega
theorem slice_K {prog : Program} {w : World} {A : Around} {E : Value → Shared → Prop} {s : Shared} {h₀ : Heap} {L l : Addr} {m : Str → Option Value} {news : List (Addr × Obj)} {value slice : PySem.Expr} {us : List Value} {vl vu : Value} {lo hi : Option Int} {Q : Value → Shared → Prop}
    (F : Fr h₀ L s.heap m) (N : News h₀ L s.heap news) (hl : s.heap.IsList l us.toArray) (pl : IsPart vl lo) (pu : IsPart vu hi)
    (h : ∀ D h', Fr h₀ L h' m → News h₀ L h' ((D, W.listOf (kms_pick us lo hi).toArray 0) :: news) → (∀ p ∈ news, p.1 < D) → Q (.ref D) { s with heap := h' })
    (hs : subscripted slice false (.ref l) (.ref s.heap.objs.size) = operate [.ref s.heap.objs.size, .ref l] (getItem (.ref l) (.ref s.heap.objs.size))) (ht : ∀ r, letTemporaryGo value (.ref l) r = pure ()) (hz : us.length ≤ 1000) :
    wpAny (model prog w) A (subscriptTail value slice (.ref l) (.ref s.heap.objs.size)) Q E { s with heap := s.heap.push { cls := .type "slice", data := .fields #[vl, vu, .none] } } :=
  kms_slice_lit F N hl pl pu rfl h hs ht (by rw [List.size_toArray]; exact Nat.le_trans hz (by decide))
end Mine
end
section
namespace Mine
local macro_rules | `(tactic| walk_at "mine step") => `(tactic| first | (k_unfold; (try dsimp only)) | (k_end; wrow_close) | walk1 | (dsimp only; walk1) | (leave1; walk_say "STEP leave1"; try dsimp only) | fail "no step")
local macro_rules | `(tactic| walk_at "mine to call") => `(tactic| repeat' ((fail_if_success (with_reducible show wpAny _ _ (PySem.call (Value.ref _) _ _) _ _ _)); (fail_if_success (with_reducible show wpAny _ _ (PySem.exec (PySem.Stmt.For _ _ _ _ _) _) _ _ _)); walk_at "mine step"))
local macro_rules | `(tactic| walk_at "mine to comp") => `(tactic| repeat' ((fail_if_success (with_reducible show wpAny _ _ (PySem.exec (PySem.Stmt.Assign _ (Expr.ListComp _ _ _ _) _) _) _ _ _)); walk_at "mine step"))
local macro_rules | `(tactic| walk_at "mine to call2") => `(tactic| repeat' ((fail_if_success (with_reducible show wpAny _ _ (PySem.call (Value.ref _) _ _) _ _ _)); walk_at "mine step"))
theorem node_of {t : Tree} (h : t.isNode = true) : ∃ x y z, t = .node x y z := by cases t with | leaf a => cases h | node x y z => exact ⟨_, _, _, rfl⟩
theorem unr_go {h₀ h' : Heap} {L : Addr} {its : List (Addr × Obj)} {rest : (Str → Option Value) → List (Addr × Obj) → Prop} {s₁ : Shared} {tk : Nat} {m' : Str → Option Value} (news' : List (Addr × Obj)) (F : Fr h₀ L h' m') (N : News h₀ L h' (its ++ news')) (off : ∀ p ∈ news', ∀ q ∈ its, p.1 ≠ q.1) (r : rest m' news') :
    UnrEndW h₀ L s₁ its rest { s₁ with heap := h', toks := tk } := ⟨_, _, _, _, rfl, F, N, off, r⟩
theorem head_node {t : Tree} (h : (flat t)[0]? = some Option.none) : t.isNode = true := by cases t with | leaf a => simp [flat] at h | node x y z => rfl
local macro_rules | `(tactic| k_all) => `(tactic| assumption)
local macro_rules | `(tactic| walk_at "call builtin:list.append") => `(tactic| (k_here; (with_reducible show wpAny _ _ (call (Value.builtin _) [Value.ref _, _]) _ _ _); k_dflt (refine' append_K ?k1 ?k2 ?k3 ?_ ?z; (case k1 => k_asm); (case k2 => k_asm); (case k3 => k_upd); (case z => (refine Nat.le_trans (m := 1000) ?_ (by decide); simp only [List.size_toArray]; omega)); k_whole); intro h' F' N'; (try k_sweep)))
def tree0 : Tree := .node (.leaf (.int 0)) (.leaf (.int 0)) (.leaf (.str (Str.ofString "a") (by decide +kernel)))
def tree1 : Tree := .node (.leaf (.int 0)) (.leaf (.int 1)) tree0
theorem abs_rows {h₀ h : Heap} {L aR : Addr} {m : Str → Option Value} {v0 v1 : Value} {k : Nat} {old : List (Addr × Obj)} (F : Fr h₀ L h m) (N : News h₀ L h ((aR, W.listOf [v0, v1].toArray k) :: old)) (e : m (Str.ofString "rows") = some (.ref aR))
    (r0 : RowP (fun a o => (a, o) ∈ old) v0 (flat tree0)) (r1 : RowP (fun a o => (a, o) ∈ old) v1 (flat tree1)) (ho : ∀ p ∈ old, p.1 ≠ aR) :
    ∃ aR v0 v1 old k, Fr h₀ L h m ∧ News h₀ L h ((aR, W.listOf [v0, v1].toArray k) :: old) ∧ m (Str.ofString "rows") = some (.ref aR) ∧ RowP (fun a o => (a, o) ∈ old) v0 (flat tree0) ∧ RowP (fun a o => (a, o) ∈ old) v1 (flat tree1) ∧ ∀ p ∈ old, p.1 ≠ aR :=
  ⟨_, _, _, _, _, F, N, e, r0, r1, ho⟩
local macro_rules | `(tactic| walk_at "mine to iter") => `(tactic| repeat' ((fail_if_success (with_reducible show wpAny _ _ (PySem.pyIter _) _ _ _)); walk_at "mine step"))
local macro_rules | `(tactic| walk_at "mine to like") => `(tactic| repeat' ((fail_if_success (with_reducible show wpAny _ _ (PySem.exec (PySem.Stmt.Assign [Expr.Name (Str.ofString "like") _] _ _) _) _ _ _)); (fail_if_success (with_reducible show wpAny _ _ (PySem.call (Value.ref _) _ _) _ _ _)); walk_at "mine step"))
local macro_rules | `(tactic| walk_at "mine to row") => `(tactic| repeat' ((fail_if_success (with_reducible show wpAny _ _ (PySem.exec (PySem.Stmt.Assign [Expr.Name (Str.ofString "row") _] _ _) _) _ _ _)); (fail_if_success (with_reducible show wpAny _ _ (PySem.call (Value.ref _) _ _) _ _ _)); walk_at "mine step"))
local macro_rules | `(tactic| walk_at "mine to place") => `(tactic| repeat' ((fail_if_success (with_reducible show wpAny _ _ (PySem.exec (PySem.Stmt.Assign [Expr.Name (Str.ofString "place") _] _ _) _) _ _ _)); (fail_if_success (with_reducible show wpAny _ _ (PySem.call (Value.ref _) _ _) _ _ _)); walk_at "mine step"))
local macro_rules | `(tactic| walk_at "mine to end") => `(tactic| repeat' ((fail_if_success (with_reducible show wpAny _ _ (PySem.exec (PySem.Stmt.Assign [Expr.Name (Str.ofString "end") _] _ _) _) _ _ _)); (fail_if_success (with_reducible show wpAny _ _ (PySem.call (Value.ref _) _ _) _ _ _)); walk_at "mine step"))
local macro_rules | `(tactic| walk_at "mine to plain") => `(tactic| repeat' ((fail_if_success (with_reducible show wpAny _ _ (PySem.exec (PySem.Stmt.Assign [Expr.Name (Str.ofString "plain") _] _ _) _) _ _ _)); (fail_if_success (with_reducible show wpAny _ _ (PySem.call (Value.ref _) _ _) _ _ _)); walk_at "mine step"))
local macro_rules | `(tactic| walk_at "mine to kind") => `(tactic| repeat' ((fail_if_success (with_reducible show wpAny _ _ (PySem.exec (PySem.Stmt.Assign [Expr.Name (Str.ofString "kind") _] _ _) _) _ _ _)); (fail_if_success (with_reducible show wpAny _ _ (PySem.call (Value.ref _) _ _) _ _ _)); walk_at "mine step"))
local macro_rules | `(tactic| walk_at "mine to part") => `(tactic| repeat' ((fail_if_success (with_reducible show wpAny _ _ (PySem.exec (PySem.Stmt.Assign [Expr.Name (Str.ofString "part") _] _ _) _) _ _ _)); (fail_if_success (with_reducible show wpAny _ _ (PySem.call (Value.ref _) _ _) _ _ _)); walk_at "mine step"))
local macro_rules | `(tactic| walk_at "mine to thing") => `(tactic| repeat' ((fail_if_success (with_reducible show wpAny _ _ (PySem.exec (PySem.Stmt.Assign [Expr.Name (Str.ofString "thing") _] _ _) _) _ _ _)); (fail_if_success (with_reducible show wpAny _ _ (PySem.call (Value.ref _) _ _) _ _ _)); walk_at "mine step"))
local macro_rules | `(tactic| walk_at "call builtin:len") => `(tactic| (k_here; (with_reducible show wpAny _ _ (call (Value.builtin _) [Value.ref _]) _ _ _); k_dflt (refine' len_at ⟨_, News.get (by k_asm) (by k_mem), rfl, _, rfl⟩ ?z ?_; (case z => omega))))
local macro_rules | `(tactic| walk_at "subscriptTail") => `(tactic| (k_here; (with_reducible show wpAny _ _ (subscriptTail _ _ (Value.ref _) (Value.int _ _)) _ _ _); k_dflt (refine' item_at ⟨_, News.get (by k_asm) (by k_mem), rfl, _, rfl⟩ ?a ?b ?c ?_ ?d; (case a => omega); (case b => omega); (case c => (first | (simp only [Int.toNat_natCast]; assumption) | (simp only [Int.toNat_zero]; assumption))); (case d => with_unfolding_all rfl); k_whole)))
local macro_rules | `(tactic| k_mem) => `(tactic| assumption)
local macro_rules | `(tactic| walk_at "subscriptTail Name Slice ref ref") => `(tactic| (k_here; (with_reducible show wpAny _ _ (subscriptTail _ (PySem.Expr.Slice _ _ none _) (Value.ref _) (Value.ref _)) _ _ _); k_dflt (refine' slice_K ?F ?N ?l ?p ?q ?_ ?s ?t ?z; (case F => k_asm); (case N => k_asm); (case l => exact ⟨_, News.get (by k_asm) (by k_mem), rfl, _, rfl⟩); (case p => kmk_part); (case q => kmk_part); (case s => with_unfolding_all rfl); (case t => kmk_pure); (case z => omega)); intro D' h' F' N' l1; (try k_lt l1); (try k_sweep)))
local macro_rules | `(tactic| walk_at "mine to if") => `(tactic| repeat' ((fail_if_success (with_reducible show wpAny _ _ (PySem.exec (PySem.Stmt.If _ _ _ _) _) _ _ _)); (fail_if_success (with_reducible show wpAny _ _ (PySem.call (Value.ref _) _ _) _ _ _)); walk_at "mine step"))
local macro_rules | `(tactic| walk_at "binaryOp Add ref ref") => `(tactic| (k_here; k_dflt (refine' add_K ?k1 ?k2 ?k3 ?k4 ?_ ?k5; (case k1 => k_asm); (case k2 => k_asm); (case k3 => exact ⟨_, News.get (by k_asm) (by k_mem), rfl, _, rfl⟩); (case k4 => exact ⟨_, News.get (by k_asm) (by k_mem), rfl, _, rfl⟩); (case k5 => (refine Nat.le_trans (m := 1000) ?_ (by decide); (try simp only [List.size_toArray, List.length_append]); omega))); intro D' h' F' N' l1; (try k_lt l1); (try k_sweep)))
theorem law_call {w : World} {s : Shared} {mean : ExcName → Option Value} {mg mb : Str → Option Value} {R : Result → Shared → Prop} {asc : Addr} {vs : List Value} {ns : List Int}
    (X : (hd.heap_39 w.params).In s.heap) (T : TopAt mean mg mb s.heap) (hl : s.heap.IsList asc vs.toArray) (hi : IntsAre vs ns) (hn : ns.length ≤ 63)
    (hR : ∀ h' tk, (∀ b o, s.heap.get? b = some o → h'.get? b = some o) → R (.ok (.ret (.bool true))) { s with heap := h', toks := tk }) :
    codeAny (model PySem.Challenge.rw_dn0319_01.row.toRowW.prog w) callerA (.call (.ref 85) ⟨[.ref asc], []⟩) R s := by
  show codeAny _ (ar 301 4 (some []) []) _ _ _
  have B : Below (ar 301 4 (some []) []) s.heap [] s.heap := ⟨rfl, fun _ _ e => e, trivial⟩
  revert X; k_fill; intro X
  k_dflt (refine' enter0 X T.nolimit ?k6 ?k7 ?k8 ?k9 ?kB ?_ ?c2 ?c3 ?c4 ?c5; (case k6 => k_is); (case k7 => k_is); (case k8 => decide); (case k9 => exact BindsTo.of_eq rfl); (case c5 => decide); (case kB => exact locs rfl); (case c2 => exact rfl); (case c3 => exact rfl); (case c4 => exact rfl); k_whole; intro h' L' F' N')
  refine wpAny_noRaise ?_
  k_fold
  walk_at "mine to comp"
  rename Fr _ _ _ _ => F1
  rename News _ _ _ _ => N1
  rename_i p0 l1 h1 q1 l2 h2 q2 l3 h3 q3 l4 h4 q4 l5 h5 q5 l6 h6 q6 l7 h7 q7 l8 h8 q8 l9 h9 q9 l10 h10 q10 l11 h11 q11 l12 h12 q12 l13 h13 q13 l14 h14 q14 hh
  obtain ⟨aR, v0, v1, old, k0, F2, N2, e0, r0, r1, ho⟩ := abs_rows F1 N1 rfl ⟨_, _, _, rfl, (.tail _ (.tail _ (.tail _ (.tail _ (.tail _ (.tail _ (.tail _ (.tail _ (.head _))))))))), (.cons ⟨_, _, _, rfl, (.tail _ (.tail _ (.tail _ (.tail _ (.tail _ (.tail _ (.tail _ (.tail _ (.tail _ (.tail _ (.tail _ (.tail _ (.head _))))))))))))), .nil⟩ (.cons ⟨_, _, _, rfl, (.tail _ (.tail _ (.tail _ (.tail _ (.tail _ (.tail _ (.tail _ (.tail _ (.tail _ (.tail _ (.tail _ (.head _)))))))))))), .cons (.int _ _) .nil⟩ (.cons ⟨_, _, _, rfl, (.tail _ (.tail _ (.tail _ (.tail _ (.tail _ (.tail _ (.tail _ (.tail _ (.tail _ (.tail _ (.head _))))))))))), .cons (.int _ _) .nil⟩ (.cons ⟨_, _, _, rfl, (.tail _ (.tail _ (.tail _ (.tail _ (.tail _ (.tail _ (.tail _ (.tail _ (.tail _ (.head _)))))))))), .cons (.str _ _ _) .nil⟩ .nil))))⟩ ⟨_, _, _, rfl, (.head _), (.cons ⟨_, _, _, rfl, (.tail _ (.tail _ (.tail _ (.tail _ (.tail _ (.tail _ (.tail _ (.head _)))))))), .nil⟩ (.cons ⟨_, _, _, rfl, (.tail _ (.tail _ (.tail _ (.tail _ (.tail _ (.tail _ (.head _))))))), .cons (.int _ _) .nil⟩ (.cons ⟨_, _, _, rfl, (.tail _ (.tail _ (.tail _ (.tail _ (.tail _ (.head _)))))), .cons (.int _ _) .nil⟩ (.cons ⟨_, _, _, rfl, (.tail _ (.tail _ (.tail _ (.tail _ (.head _))))), .nil⟩ (.cons ⟨_, _, _, rfl, (.tail _ (.tail _ (.tail _ (.head _)))), .cons (.int _ _) .nil⟩ (.cons ⟨_, _, _, rfl, (.tail _ (.tail _ (.head _))), .cons (.int _ _) .nil⟩ (.cons ⟨_, _, _, rfl, (.tail _ (.head _)), .cons (.str _ _ _) .nil⟩ .nil)))))))⟩ (by obtain ⟨a1, a2, a3, a4, a5, a6, a7, a8, a9, a10, a11, a12, a13⟩ := q14; exact tbn_neAll ⟨a1, a2, a3, a4, a5, a6, a7, a8, a9, a10, a11, a12, a13, trivial⟩)
  clear F1 N1 q1 q2 q3 q4 q5 q6 q7 q8 q9 q10 q11 q12 q13 q14
  replace F2 := fr_known [(Str.ofString "rows", _), (Str.ofString "script", .ref asc)] F2 (by simp only [List.forall_mem_cons]; exact ⟨e0, rfl, List.forall_mem_nil _⟩)
  simp only [known] at F2
  k_dflt (refine PyProof.Rows.LCg.Assign_ListComp_U (cl := []) F2 rfl ?hsw ?hclos ?hcell ?hkind ?hnames ?hx ?hy ?hp ?_ (fun _ => rfl))
  case hsw => with_unfolding_all rfl
  case hclos => with_unfolding_all rfl
  case hcell => decide
  case hkind => rfl
  case hnames => decide
  case hx => rfl
  case hy => rfl
  case hp => rfl
  walk_at "mine to call"
  rename PyProof.Rows.LCg.NsObj _ _ => hC1
  rename _ ∧ PyProof.Rows.LCg.Off3 _ _ _ _ => off1
  rename InElt _ _ => el1
  rename Fr _ _ _ _ => F3
  rename News _ _ _ _ => N3
  k_dflt (refine use_made X T (by decide) (by decide) (B.push F3) F3 N3 (r0.mono (fun a o q => .tail _ (.tail _ (.tail _ (.tail _ q))))) (by decide) ?_)
  intro q0 tl0 h4 tk4 F4 N4 off4 ht0
  walk_at "mine to call"
  have o1 := PyProof.Rows.LCg.Off3.mem off1.2
  refine PyProof.Rows.LCg.CompEnd.intro F4 N4 ((aR, W.listOf [v0, v1].toArray k0) :: (tl0 ++ old)) ?_ ⟨off1.1, PyProof.Rows.LCg.Off3.of ?_⟩ (.inr ⟨_, .head _, rfl, _, rfl⟩) ?_
  · intro p hp
    simp only [List.mem_cons, List.mem_append] at hp ⊢
    grind
  · intro p hp
    rcases List.mem_append.mp hp with hp | hp
    · exact ⟨off4 p hp _ (.head _), off4 p hp _ (.tail _ (.head _)), off4 p hp _ (.tail _ (.tail _ (.head _)))⟩
    · exact o1 p hp
  have off0 : ∀ p ∈ tl0 ++ old, p.1 ≠ aR := by
    intro p hp
    rcases List.mem_append.mp hp with hp | hp
    · exact off4 p hp _ (.tail _ (.tail _ (.tail _ (.head _))))
    · exact ho p hp
  clear o1 off4 off1 N4 F4 N3 F3 hC1 el1 N2
  walk_at "mine to call"
  rename PyProof.Rows.LCg.NsObj _ _ => hC1
  rename _ ∧ PyProof.Rows.LCg.Off3 _ _ _ _ => off1
  rename InElt _ _ => el1
  rename Fr _ _ _ _ => F3
  rename News _ _ _ _ => N3
  k_dflt (refine use_made X T (by decide) (by decide) (B.push F3) F3 N3 (r1.mono (fun a o q => .tail _ (.tail _ (.tail _ (.tail _ (List.mem_append_right _ q)))))) (by decide) ?_)
  intro q1 tl1 h4 tk4 F4 N4 off4 ht1
  walk_at "mine to call"
  have o1 := PyProof.Rows.LCg.Off3.mem off1.2
  refine PyProof.Rows.LCg.CompEnd.intro F4 N4 ((aR, W.listOf [v0, v1].toArray k0) :: (tl1 ++ (tl0 ++ old))) ?_ ⟨off1.1, PyProof.Rows.LCg.Off3.of ?_⟩ (.inr ⟨_, .head _, rfl, _, rfl⟩) ?_
  · intro p hp
    simp only [List.mem_cons, List.mem_append] at hp ⊢
    grind
  · intro p hp
    rcases List.mem_append.mp hp with hp | hp
    · exact ⟨off4 p hp _ (.head _), off4 p hp _ (.tail _ (.head _)), off4 p hp _ (.tail _ (.tail _ (.head _)))⟩
    · exact o1 p hp
  have off00 : ∀ p ∈ tl1 ++ (tl0 ++ old), p.1 ≠ aR := by
    intro p hp
    rcases List.mem_append.mp hp with hp | hp
    · exact off4 p hp _ (.tail _ (.tail _ (.tail _ (.head _))))
    · exact off0 p hp
  clear o1 off4 off1 N4 F4 N3 F3 hC1 el1 off0 ho
  refine PyProof.Rows.LCg.CompRest.zero ?_
  intro aM h5 tk5 F5 N5 off5
  have off6 := off1_mem off5
  obtain ⟨all, hall⟩ : ∃ all, all = tl1 ++ (tl0 ++ old) := ⟨_, rfl⟩
  have hRM : aR ≠ aM := off6 _ (.head _)
  replace hRM := neN hRM
  replace off6 : ∀ p ∈ all, p.1 ≠ aM := fun p hp => off6 p (.tail _ (hall ▸ hp))
  replace off00 : ∀ p ∈ all, p.1 ≠ aR := fun p hp => off00 p (hall ▸ hp)
  replace N5 : News s.heap L' h5 ((aR, W.listOf [v0, v1].toArray k0) :: (aM, W.listOf [q0, q1].toArray 2) :: all) := by
    refine news_sub N5 fun p hp => ?_
    rw [hall] at hp
    simp only [List.mem_cons, List.mem_append] at hp ⊢
    rcases hp with rfl | rfl | hp
    · exact .inr (.inl rfl)
    · exact .inl rfl
    · exact .inr (.inr hp)
  replace r0 : RowP (fun a o => (a, o) ∈ all) v0 (flat tree0) := r0.mono fun a o q => hall ▸ List.mem_append_right _ (List.mem_append_right _ q)
  replace r1 : RowP (fun a o => (a, o) ∈ all) v1 (flat tree1) := r1.mono fun a o q => hall ▸ List.mem_append_right _ (List.mem_append_right _ q)
  replace ht0 : TreeP (fun a o => (a, o) ∈ all) q0 tree0 := ht0.mono fun a o q => hall ▸ List.mem_append_right _ (List.mem_append_left _ q)
  replace ht1 : TreeP (fun a o => (a, o) ∈ all) q1 tree1 := ht1.mono fun a o q => hall ▸ List.mem_append_left _ q
  clear hall off5 F2 e0
  replace F5 := fr_known [(Str.ofString "rows", .ref aR), (Str.ofString "made", .ref aM), (Str.ofString "script", .ref asc)] F5 (by simp only [List.forall_mem_cons]; exact ⟨rfl, rfl, rfl, List.forall_mem_nil _⟩)
  simp only [known] at F5
  walk_at "mine to call"
  have up2 : ∀ {e f : Addr × Obj} (a : Addr) (o : Obj), (a, o) ∈ all → (a, o) ∈ e :: f :: all := fun _ _ m => .tail _ (.tail _ m)
  k_dflt (refine use_told X T (by decide) (by decide) B F5 N5 (ht0.mono up2) (ht1.mono up2) ?_ rfl)
  intro d1 h6 tk6 F6 N6 hd1
  clear F5 N5
  walk_at "mine to call"
  k_dflt (refine use_repr F6 N6 hd1 rfl (by show 7 + 10 < cLine; decide) ?_)
  intro h7 u7 tk7 F7 N7
  clear F6 N6 hd1
  walk_at "mine to call"
  k_dflt (refine use_due X T (by decide) (by decide) F7 N7 (r0.mono up2) (r1.mono up2) (by decide) (by decide) ?_)
  intro d2 h8 tk8 F8 N8 hd2
  rw [dueR_trees] at hd2
  clear F7 N7
  walk_at "mine to call"
  k_dflt (refine use_repr F8 N8 hd2 rfl (by show 7 + 10 < cLine; decide) ?_)
  intro h9 u9 tk9 F9 N9
  clear F8 N8 hd2
  walk_at "mine to call"
  k_dflt (refine For_invVF F9 rfl rfl ?_ (fun _ => rfl) PassesOwn.never)
  walk_at "mine to iter"
  rename IsRange _ _ _ _ _ _ _ _ => hrng
  rename Fr _ _ _ _ => F1
  rename News _ _ _ _ => N1
  k_dflt (refine loop_range (n := ns.length) rfl hrng (by simp [hi.length]) (by omega) F1 N1 (fun i m nw => ∃ aR aM rv mv ts kr km old, m (Str.ofString "script") = some (.ref asc) ∧ m (Str.ofString "rows") = some (.ref aR) ∧ m (Str.ofString "made") = some (.ref aM) ∧ nw = (aR, W.listOf (List.toArray rv) kr) :: (aM, W.listOf (List.toArray mv) km) :: old ∧ (@Ne Nat aR aM) ∧ (∀ p ∈ old, p.1 ≠ aR) ∧ (∀ p ∈ old, p.1 ≠ aM) ∧ Paired (fun v t => RowP (fun a o => (a, o) ∈ old) v (flat t)) rv ts ∧ Paired (TreeP (fun a o => (a, o) ∈ old)) mv ts ∧ 2 ≤ ts.length ∧ ts.length ≤ 2 + i ∧ ∀ t ∈ ts, t.isNode = true ∧ (flat t).length ≤ 13) ⟨aR, aM, [v0, v1], [q0, q1], [tree0, tree1], _, _, all, rfl, rfl, rfl, rfl, hRM, off00, off6, .cons r0 (.cons r1 .nil), .cons ht0 (.cons ht1 .nil), by decide, by decide, by decide⟩ ?_ ?_)
  · clear N1 F1 hRM off00 off6 r0 r1 ht0 ht1
    rintro i tk1 m1 nw I it h2 tk2 hi1 ⟨aR, aM, rv, mv, ts, kr, km, old, e1, e2, e3, rfl, hRM, offR, offM, hrv, hmv, hts2, htsi, hts⟩ hoff F2 N2
    replace F2 := fr_known [(Str.ofString "k", _), (Str.ofString "script", _), (Str.ofString "rows", _), (Str.ofString "made", _)] F2 (by simp only [List.forall_mem_cons]; exact ⟨rfl, e1, e2, e3, List.forall_mem_nil _⟩)
    simp only [known] at F2
    have hrl := Paired.len hrv
    have hml := Paired.len hmv
    clear hrng up2
    walk_at "mine to like"
    rename Fr s.heap L' _ _ => F3
    rename News s.heap L' _ _ => N3
    clear F2 N2
    obtain ⟨num, hnum⟩ : ∃ num : Nat, ((if ns.getD ((i : Nat) : Int).toNat 0 < 0 then - ns.getD ((i : Nat) : Int).toNat 0 else ns.getD ((i : Nat) : Int).toNat 0) + 13 * ((i : Nat) : Int) + 42) = (num : Int) := ⟨_, (Int.toNat_of_nonneg (by split <;> omega)).symm⟩
    obtain ⟨tn, en⟩ := fr_int (x := Str.ofString "number") F3 rfl hnum
    obtain ⟨m3, F4⟩ := fr_cut [(Str.ofString "number", _), (Str.ofString "k", .int (i : Int) tk1), (Str.ofString "script", .ref asc), (Str.ofString "rows", .ref aR), (Str.ofString "made", .ref aM)] F3 (by simp only [List.forall_mem_cons]; exact ⟨en, rfl, rfl, rfl, rfl, List.forall_mem_nil _⟩)
    simp only [known] at F4
    clear F3 en e1 e2 e3
    walk_at "mine to row"
    rename Fr s.heap L' _ _ => F5
    rename News s.heap L' _ _ => N5
    obtain ⟨li, hli⟩ : ∃ li, li = num % ts.length := ⟨_, rfl⟩
    obtain ⟨tli, eli⟩ := fr_int (x := Str.ofString "like") (j := (li : Int)) F5 rfl (by rw [hrl, nat_fmod, hli])
    have hli1 : li < ts.length := by rw [hli]; exact Nat.mod_lt _ (by omega)
    obtain ⟨m5, F6⟩ := fr_cut [(Str.ofString "like", _), (Str.ofString "number", .int (num : Int) tn), (Str.ofString "k", .int (i : Int) tk1), (Str.ofString "script", .ref asc), (Str.ofString "rows", .ref aR), (Str.ofString "made", .ref aM)] F5 (by simp only [List.forall_mem_cons]; exact ⟨eli, rfl, rfl, rfl, rfl, rfl, List.forall_mem_nil _⟩)
    simp only [known] at F6
    clear F5 eli
    obtain ⟨t, ht⟩ : ∃ t, ts[li]? = some t := ⟨_, List.getElem?_eq_getElem hli1⟩
    obtain ⟨hnode, hlen13⟩ := hts t (List.mem_of_getElem? ht)
    obtain ⟨vr, hvr, hrow⟩ := paired_get hrv li t ht
    obtain ⟨aRow, us, ku, rfl, hmem, hcells⟩ := id hrow
    have hul := Paired.len hcells
    have hul0 : 0 < us.length := by rw [hul]; exact flat_pos t
    walk_at "mine to place"
    walk_at "mine to end"
    rename Fr s.heap L' _ _ => F7
    rename News s.heap L' _ _ => N7
    obtain ⟨pl, hpl⟩ : ∃ pl, pl = num / 5 % us.length := ⟨_, rfl⟩
    obtain ⟨tpl, epl⟩ := fr_int (x := Str.ofString "place") (j := (pl : Int)) F7 rfl (by rw [show (5 : Int) = ((5 : Nat) : Int) from rfl, nat_fdiv, nat_fmod, hpl])
    have hpl1 : pl < (flat t).length := by rw [hpl, ← hul]; exact Nat.mod_lt _ hul0
    obtain ⟨m7, F8⟩ := fr_cut [(Str.ofString "place", _), (Str.ofString "row", .ref aRow), (Str.ofString "like", .int (li : Int) tli), (Str.ofString "number", .int (num : Int) tn), (Str.ofString "k", .int (i : Int) tk1), (Str.ofString "script", .ref asc), (Str.ofString "rows", .ref aR), (Str.ofString "made", .ref aM)] F7 (by simp only [List.forall_mem_cons]; exact ⟨epl, rfl, rfl, rfl, rfl, rfl, rfl, rfl, List.forall_mem_nil _⟩)
    simp only [known] at F8
    clear F7 epl
    obtain ⟨pre, sub, post, hsplit, hprel, hrepl⟩ := tree_split t pl hpl1
    walk_at "mine to plain"
    k_dflt (refine use_end X T (by decide) (by decide) F8 N7 (hrow.mono (fun a o q => .tail _ (.tail _ (.tail _ q)))) (by omega) (x := sub) (rest := post) (by rw [hsplit, ← hprel]; simp) ?_)
    intro h10 te tk10 F10 N10
    clear F8 N7
    walk_at "mine to part"
    rename Fr s.heap L' _ _ => F11
    rename News s.heap L' _ _ => N11
    obtain ⟨kd, hkd⟩ : ∃ kd, kd = num / 7 % 10 := ⟨_, rfl⟩
    obtain ⟨tkd, ekd⟩ := fr_int (x := Str.ofString "kind") (j := (kd : Int)) F11 rfl (by rw [show (7 : Int) = ((7 : Nat) : Int) from rfl, nat_fdiv, show (10 : Int) = ((10 : Nat) : Int) from rfl, nat_fmod, hkd])
    have hkd1 : kd < 10 := by omega
    walk_at "mine to if"
    rename Fr s.heap L' _ _ => F12
    rename News s.heap L' _ _ => N12
    obtain ⟨old2, hsub2, he1, he2, N13, offI2, offR2, offM2⟩ := regroup2 N12 (fun p hp => hoff p (.tail _ (.tail _ hp))) offR offM ⟨neN (by (try dsimp only); omega), neN (by (try dsimp only); omega), neN (by (try dsimp only); omega)⟩ ⟨neN (by (try dsimp only); omega), neN (by (try dsimp only); omega), neN (by (try dsimp only); omega)⟩
    have hcells2 : Paired (CellP fun a o => (a, o) ∈ old2) us (flat t) := Paired.mono' hcells fun _ _ q => q.mono fun a o q => hsub2 _ q
    have hend : pl + (flat sub).length ≤ us.length := by
      have := congrArg List.length hsplit
      simp only [List.length_append] at this
      omega
    obtain ⟨pv, epv, hpart⟩ := part_abs (x := Str.ofString "part") (r := flat sub) (G := fun a o => (a, o) ∈ old2) (zs := kms_pick us (some (pl : Int)) (some ((pl + (flat sub).length : Nat) : Int))) (k := 0) F12 rfl he1 (by
      rw [pick_mid (by omega) hend]
      have := paired_take (paired_drop hcells2 pl) (pl + (flat sub).length - pl)
      have e : (flat t).drop pl = flat sub ++ post := by rw [hsplit, ← hprel]; simp
      rw [e, Nat.add_sub_cancel_left, List.take_left'] at this
      · rw [Nat.add_sub_cancel_left]; exact this
      · rfl)
    obtain ⟨aP, zs, kz, eaP, hzm, az, hazl, haz⟩ := plain_abs (x := Str.ofString "plain") (G := fun a o => (a, o) ∈ old2) F12 rfl he2 ⟨[.int _, .int _, .int _, .bool _, .str _ (by decide +kernel), .none], rfl, .cons (.int _ _) (.cons (.int _ _) (.cons (.int _ _) (.cons (.bool _) (.cons (.str _ _ _) (.cons .none .nil)))))⟩
    obtain ⟨m12, F13⟩ := fr_cut [(Str.ofString "part", pv), (Str.ofString "kind", .int (kd : Int) tkd), (Str.ofString "plain", .ref aP), (Str.ofString "end", .int ((pl + (flat sub).length : Nat) : Int) te), (Str.ofString "place", .int (pl : Int) tpl), (Str.ofString "row", .ref aRow), (Str.ofString "like", .int (li : Int) tli), (Str.ofString "number", .int (num : Int) tn), (Str.ofString "k", .int (i : Int) tk1), (Str.ofString "script", .ref asc), (Str.ofString "rows", .ref aR), (Str.ofString "made", .ref aM)] F12 (by simp only [List.forall_mem_cons]; exact ⟨epv, ekd, eaP, rfl, rfl, rfl, rfl, rfl, rfl, rfl, rfl, rfl, List.forall_mem_nil _⟩)
    simp only [known] at F13
    clear F12 N12 epv ekd eaP he1 he2
    have hsubl : (flat sub).length ≤ 13 := by omega
    refine join (fun s' => ∃ h tk m pv' sub' old3, s' = { s with heap := h, toks := tk } ∧ Fr s.heap L' h (known [(Str.ofString "part", pv'), (Str.ofString "kind", .int (kd : Int) tkd), (Str.ofString "plain", .ref aP), (Str.ofString "end", .int ((pl + (flat sub).length : Nat) : Int) te), (Str.ofString "place", .int (pl : Int) tpl), (Str.ofString "row", .ref aRow), (Str.ofString "like", .int (li : Int) tli), (Str.ofString "number", .int (num : Int) tn), (Str.ofString "k", .int (i : Int) tk1), (Str.ofString "script", .ref asc), (Str.ofString "rows", .ref aR), (Str.ofString "made", .ref aM)] m) ∧ News s.heap L' h ((I, it) :: (aR, W.listOf rv.toArray kr) :: (aM, W.listOf mv.toArray km) :: old3) ∧ (∀ p ∈ old2, p ∈ old3) ∧ (∀ p ∈ old3, p.1 ≠ I) ∧ (∀ p ∈ old3, p.1 ≠ aR) ∧ (∀ p ∈ old3, p.1 ≠ aM) ∧ RowP (fun a o => (a, o) ∈ old3) pv' (flat sub') ∧ (flat sub').length ≤ 13) ?_ ?_
    · rcases Nat.lt_or_ge kd 6 with h6 | h6
      · obtain ⟨az1, haz1⟩ : ∃ a, az[kd]? = some a := ⟨_, List.getElem?_eq_getElem (by omega)⟩
        obtain ⟨vz, hvz, hatz⟩ := paired_get haz kd az1 haz1
        walk_at "mine to call"
        rename Fr s.heap L' _ _ => F14
        rename News s.heap L' _ _ => N14
        obtain ⟨old3, hsub3, he1, he2, N15, offI3, offR3, offM3⟩ := regroup2 N14 offI2 offR2 offM2 ⟨neN (by (try dsimp only); omega), neN (by (try dsimp only); omega), neN (by (try dsimp only); omega)⟩ ⟨neN (by (try dsimp only); omega), neN (by (try dsimp only); omega), neN (by (try dsimp only); omega)⟩
        refine Joined.mk ⟨_, _, _, _, .leaf az1, old3, rfl, fr_known [(Str.ofString "part", _), (Str.ofString "kind", .int (kd : Int) tkd), (Str.ofString "plain", .ref aP), (Str.ofString "end", .int ((pl + (flat sub).length : Nat) : Int) te), (Str.ofString "place", .int (pl : Int) tpl), (Str.ofString "row", .ref aRow), (Str.ofString "like", .int (li : Int) tli), (Str.ofString "number", .int (num : Int) tn), (Str.ofString "k", .int (i : Int) tk1), (Str.ofString "script", .ref asc), (Str.ofString "rows", .ref aR), (Str.ofString "made", .ref aM)] F14 (by simp only [List.forall_mem_cons]; exact ⟨rfl, rfl, rfl, rfl, rfl, rfl, rfl, rfl, rfl, rfl, rfl, rfl, List.forall_mem_nil _⟩), N15, hsub3, offI3, offR3, offM3, ⟨_, _, _, rfl, he1, .cons ⟨_, _, _, rfl, he2, .cons hatz .nil⟩ .nil⟩, by simp [flat]⟩
      · rcases Nat.lt_or_ge kd 8 with h8 | h8
        · obtain ⟨j, hj⟩ : ∃ j, j = num / 70 % ts.length := ⟨_, rfl⟩
          have hj1 : j < ts.length := by rw [hj]; exact Nat.mod_lt _ (by omega)
          have ej : Int.fmod (Int.fdiv (num : Int) 70) (rv.length : Int) = (j : Int) := by rw [hrl, show (70 : Int) = ((70 : Nat) : Int) from rfl, nat_fdiv, nat_fmod, hj]
          obtain ⟨t2, ht2⟩ : ∃ t, ts[j]? = some t := ⟨_, List.getElem?_eq_getElem hj1⟩
          obtain ⟨vj, hvj, hrowj⟩ := paired_get hrv j t2 ht2
          walk_at "mine to call"
          rw [ej]
          walk_at "mine to call"
          rename Fr s.heap L' _ _ => F14
          rename News s.heap L' _ _ => N14
          refine Joined.mk ⟨_, _, _, _, t2, old2, rfl, fr_known [(Str.ofString "part", _), (Str.ofString "kind", .int (kd : Int) tkd), (Str.ofString "plain", .ref aP), (Str.ofString "end", .int ((pl + (flat sub).length : Nat) : Int) te), (Str.ofString "place", .int (pl : Int) tpl), (Str.ofString "row", .ref aRow), (Str.ofString "like", .int (li : Int) tli), (Str.ofString "number", .int (num : Int) tn), (Str.ofString "k", .int (i : Int) tk1), (Str.ofString "script", .ref asc), (Str.ofString "rows", .ref aR), (Str.ofString "made", .ref aM)] F14 (by simp only [List.forall_mem_cons]; exact ⟨rfl, rfl, rfl, rfl, rfl, rfl, rfl, rfl, rfl, rfl, rfl, rfl, List.forall_mem_nil _⟩), N14, fun _ q => q, offI2, offR2, offM2, hrowj.mono fun a o q => hsub2 _ q, (hts t2 (List.mem_of_getElem? ht2)).2⟩
        · walk_at "mine to call"
          rename Fr s.heap L' _ _ => F14
          rename News s.heap L' _ _ => N14
          refine Joined.mk ⟨_, _, _, _, sub, old2, rfl, fr_known [(Str.ofString "part", _), (Str.ofString "kind", .int (kd : Int) tkd), (Str.ofString "plain", .ref aP), (Str.ofString "end", .int ((pl + (flat sub).length : Nat) : Int) te), (Str.ofString "place", .int (pl : Int) tpl), (Str.ofString "row", .ref aRow), (Str.ofString "like", .int (li : Int) tli), (Str.ofString "number", .int (num : Int) tn), (Str.ofString "k", .int (i : Int) tk1), (Str.ofString "script", .ref asc), (Str.ofString "rows", .ref aR), (Str.ofString "made", .ref aM)] F14 (by simp only [List.forall_mem_cons]; exact ⟨rfl, rfl, rfl, rfl, rfl, rfl, rfl, rfl, rfl, rfl, rfl, rfl, List.forall_mem_nil _⟩), N14, fun _ q => q, offI2, offR2, offM2, hpart, hsubl⟩
    rintro s' ⟨h14, tk14, m14, pv', sub', old3, rfl, F14, N14, hsub3, offI3, offR3, offM3, hpart3, hsub3l⟩
    dsimp only
    simp only [known] at F14
    obtain ⟨aQ, qs, kq, rfl, hqm, hqc⟩ := id hpart3
    have hql := Paired.len hqc
    have hmem3 := hsub3 _ (hsub2 _ hmem)
    have hk1 := pick_len us none (some (pl : Int))
    have hk2 := pick_len us (some ((pl + (flat sub).length : Nat) : Int)) none
    clear F13 N13
    walk_at "mine to thing"
    rename Fr s.heap L' _ _ => F16
    rename News s.heap L' _ _ => N16
    obtain ⟨old4, hsub4, hes4, N17, offI4, offR4, offM4⟩ := regroupN (es := [_, _, _, _]) N16 offI3 offR3 offM3 (by simp only [List.forall_mem_cons]; exact ⟨⟨neN (by (try dsimp only); omega), neN (by (try dsimp only); omega), neN (by (try dsimp only); omega)⟩, ⟨neN (by (try dsimp only); omega), neN (by (try dsimp only); omega), neN (by (try dsimp only); omega)⟩, ⟨neN (by (try dsimp only); omega), neN (by (try dsimp only); omega), neN (by (try dsimp only); omega)⟩, ⟨neN (by (try dsimp only); omega), neN (by (try dsimp only); omega), neN (by (try dsimp only); omega)⟩, List.forall_mem_nil _⟩)
    have hcells4 : Paired (CellP fun a o => (a, o) ∈ old4) us (flat t) := Paired.mono' hcells2 fun _ _ q => q.mono fun a o q => hsub4 _ (hsub3 _ q)
    have hqc4 : Paired (CellP fun a o => (a, o) ∈ old4) qs (flat sub') := Paired.mono' hqc fun _ _ q => q.mono fun a o q => hsub4 _ q
    obtain ⟨t', ht'⟩ := hrepl sub'
    have hl' : (flat t').length ≤ 26 := by
      have e1 := congrArg List.length ht'
      have e2 := congrArg List.length hsplit
      simp only [List.length_append] at e1 e2
      omega
    obtain ⟨nv, env', hrow'⟩ := part_abs (x := Str.ofString "row") (r := flat t') (G := fun a o => (a, o) ∈ old4) (zs := kms_pick us none (some (pl : Int)) ++ qs ++ kms_pick us (some ((pl + (flat sub).length : Nat) : Int)) none) (k := 0) F16 rfl (hes4 _ (.head _)) (by
      rw [pick_to (by omega), pick_from hend, ht']
      have a1 := paired_take hcells4 pl
      have a2 := paired_drop hcells4 (pl + (flat sub).length)
      rw [show (flat t).take pl = pre by rw [hsplit, ← hprel]; simp] at a1
      rw [show (flat t).drop (pl + (flat sub).length) = post by rw [hsplit, ← hprel, ← List.append_assoc, List.drop_left']; simp] at a2
      rw [← List.append_assoc]
      exact paired_append (paired_append a1 hqc4) a2)
    obtain ⟨m16, F17⟩ := fr_cut [(Str.ofString "row", nv), (Str.ofString "like", .int (li : Int) tli), (Str.ofString "number", .int (num : Int) tn), (Str.ofString "k", .int (i : Int) tk1), (Str.ofString "script", .ref asc), (Str.ofString "rows", .ref aR), (Str.ofString "made", .ref aM)] F16 (by simp only [List.forall_mem_cons]; exact ⟨env', rfl, rfl, rfl, rfl, rfl, rfl, List.forall_mem_nil _⟩)
    simp only [known] at F17
    clear F16 N16 env' hes4
    walk_at "mine to call"
    k_dflt (refine use_made X T (by decide) (by decide) (B.push F17) F17 N17 (hrow'.mono (fun a o q => .tail _ (.tail _ (.tail _ q)))) (by omega) ?_)
    intro qv tl18 h18 tk18 F18 N18 off18 htree'
    obtain ⟨old5, hsub5, hes5, N19, offI5, offR5, offM5⟩ := regroupN (es := tl18) N18 offI4 offR4 offM4 (fun e he => ⟨off18 e he _ (.head _), off18 e he _ (.tail _ (.head _)), off18 e he _ (.tail _ (.tail _ (.head _)))⟩)
    clear F17 N17 N18
    walk_at "mine to call"
    rename Fr s.heap L' _ _ => F20
    rename News s.heap L' _ _ => N20
    obtain ⟨m20, F21⟩ := fr_cut [(Str.ofString "thing", qv), (Str.ofString "row", nv), (Str.ofString "like", .int (li : Int) tli), (Str.ofString "number", .int (num : Int) tn), (Str.ofString "k", .int (i : Int) tk1), (Str.ofString "script", .ref asc), (Str.ofString "rows", .ref aR), (Str.ofString "made", .ref aM)] F20 (by simp only [List.forall_mem_cons]; exact ⟨rfl, rfl, rfl, rfl, rfl, rfl, rfl, rfl, List.forall_mem_nil _⟩)
    simp only [known] at F21
    clear F20
    k_dflt (refine For_turns F21 ?_ (fun _ => rfl) PassesOwn.never)
    walk_at "mine to iter"
    rename Fr s.heap L' _ _ => F22
    rename News s.heap L' _ _ => N22
    obtain ⟨lj, hlj⟩ : ∃ lj, lj = (li + 1) % ts.length := ⟨_, rfl⟩
    have hlj1 : lj < ts.length := by rw [hlj]; exact Nat.mod_lt _ (by omega)
    have hfm : Int.fmod ((li : Int) + 1) (rv.length : Int) = (lj : Int) := by rw [hrl, show ((li : Int) + 1) = ((li + 1 : Nat) : Int) from rfl, nat_fmod, hlj]
    have hst' := flat_len t'
    rw [hfm] at N22
    k_dflt (refine iter_listTurns (vs := [_, _]) rfl F22 N22 (.head _) rfl rfl ?_)
    intro I2 hI2
    rename_i lD _ lD1
    refine ItemsRest.val ?_
    intro hqa tqa Fqa oa hoa Nqa
    skip
    simp only [List.cons_append, List.nil_append] at Nqa
    obtain ⟨tja, htja⟩ : ∃ tj, ts[li]? = some tj := ⟨_, List.getElem?_eq_getElem hli1⟩
    obtain ⟨nda, sza⟩ := hts tja (List.mem_of_getElem? htja)
    obtain ⟨xa, ya, za, rfl⟩ := node_of nda
    obtain ⟨vma, hvma, htma⟩ := paired_get hmv _ _ htja
    obtain ⟨vra, hvra, hrra⟩ := paired_get hrv _ _ htja
    have sAa := flat_len (.node xa ya za)
    walk_at "mine to call2"
    rename Fr s.heap L' _ _ => Faa
    rename News s.heap L' _ _ => Naa
    k_dflt (refine use_told X T (by show _ < 1000; omega) (by show _ < 9900; omega) B Faa Naa (htree'.mono fun a o q => .tail _ (.tail _ (.tail _ (.tail _ (.tail _ (hes5 _ q)))))) (htma.mono fun a o q => .tail _ (.tail _ (.tail _ (.tail _ (.tail _ (hsub5 _ (hsub4 _ (hsub3 _ (hsub2 _ q))))))))) ?_ rfl)
    intro d1a h6a tk6a F6a N6a hd1a
    clear Faa Naa
    walk_at "mine to call2"
    k_dflt (refine use_repr F6a N6a hd1a rfl (by show 7 + 10 < cLine; decide) ?_)
    intro h7a u7a tk7a F7a N7a
    clear F6a N6a hd1a
    walk_at "mine to call2"
    k_dflt (refine use_due X T (by decide) (by decide) F7a N7a (hrow'.mono fun a o q => .tail _ (.tail _ (.tail _ (.tail _ (.tail _ (hsub5 _ q)))))) (hrra.mono fun a o q => .tail _ (.tail _ (.tail _ (.tail _ (.tail _ (hsub5 _ (hsub4 _ (hsub3 _ (hsub2 _ q))))))))) (by omega) (by omega) ?_)
    intro d2a h8a tk8a F8a N8a hd2a
    rw [dueR_trees] at hd2a
    clear F7a N7a
    walk_at "mine to call2"
    k_dflt (refine use_repr F8a N8a hd2a rfl (by show 7 + 10 < cLine; decide) ?_)
    intro h9a u9a tk9a F9a N9a
    clear F8a N8a hd2a
    walk_at "mine to call2"
    · (exfalso; rename (_ != _) = true => hne; simp at hne)
    refine unr_go (_ :: _ :: _ :: _ :: old5) F9a N9a (fun p hp q hq => by rw [List.mem_singleton.mp hq]; exact Nat.ne_of_lt (hI2 p hp)) ⟨⟨.head _, trivial⟩, ?_⟩
    refine ItemsRest.val ?_
    intro hqb tqb Fqb ob hob Nqb
    skip
    simp only [List.cons_append, List.nil_append] at Nqb
    obtain ⟨tjb, htjb⟩ : ∃ tj, ts[lj]? = some tj := ⟨_, List.getElem?_eq_getElem hlj1⟩
    obtain ⟨ndb, szb⟩ := hts tjb (List.mem_of_getElem? htjb)
    obtain ⟨xb, yb, zb, rfl⟩ := node_of ndb
    obtain ⟨vmb, hvmb, htmb⟩ := paired_get hmv _ _ htjb
    obtain ⟨vrb, hvrb, hrrb⟩ := paired_get hrv _ _ htjb
    have sAb := flat_len (.node xb yb zb)
    walk_at "mine to call2"
    rename Fr s.heap L' _ _ => Fab
    rename News s.heap L' _ _ => Nab
    k_dflt (refine use_told X T (by show _ < 1000; omega) (by show _ < 9900; omega) B Fab Nab (htree'.mono fun a o q => .tail _ (.tail _ (.tail _ (.tail _ (.tail _ (hes5 _ q)))))) (htmb.mono fun a o q => .tail _ (.tail _ (.tail _ (.tail _ (.tail _ (hsub5 _ (hsub4 _ (hsub3 _ (hsub2 _ q))))))))) ?_ rfl)
    intro d1b h6b tk6b F6b N6b hd1b
    clear Fab Nab
    walk_at "mine to call2"
    k_dflt (refine use_repr F6b N6b hd1b rfl (by show 7 + 10 < cLine; decide) ?_)
    intro h7b u7b tk7b F7b N7b
    clear F6b N6b hd1b
    walk_at "mine to call2"
    k_dflt (refine use_due X T (by decide) (by decide) F7b N7b (hrow'.mono fun a o q => .tail _ (.tail _ (.tail _ (.tail _ (.tail _ (hsub5 _ q)))))) (hrrb.mono fun a o q => .tail _ (.tail _ (.tail _ (.tail _ (.tail _ (hsub5 _ (hsub4 _ (hsub3 _ (hsub2 _ q))))))))) (by omega) (by omega) ?_)
    intro d2b h8b tk8b F8b N8b hd2b
    rw [dueR_trees] at hd2b
    clear F7b N7b
    walk_at "mine to call2"
    k_dflt (refine use_repr F8b N8b hd2b rfl (by show 7 + 10 < cLine; decide) ?_)
    intro h9b u9b tk9b F9b N9b
    clear F8b N8b hd2b
    walk_at "mine to call2"
    · (exfalso; rename (_ != _) = true => hne; simp at hne)
    refine unr_go (_ :: _ :: _ :: _ :: old5) F9b N9b (fun p hp q hq => by rw [List.mem_singleton.mp hq]; exact Nat.ne_of_lt (hI2 p hp)) ⟨⟨.head _, trivial⟩, ?_⟩
    refine ItemsRest.zero ?_
    intro hz tz Fz Nz
    dsimp only
    replace Nz := news_sub Nz (l' := (I, it) :: (aR, W.listOf rv.toArray kr) :: (aM, W.listOf mv.toArray km) :: old5) (fun p hp => .tail _ hp)
    obtain ⟨mz, Fy⟩ := fr_cut [(Str.ofString "thing", qv), (Str.ofString "row", nv), (Str.ofString "script", .ref asc), (Str.ofString "rows", .ref aR), (Str.ofString "made", .ref aM)] Fz (by simp only [List.forall_mem_cons]; exact ⟨rfl, rfl, rfl, rfl, rfl, List.forall_mem_nil _⟩)
    simp only [known] at Fy
    clear Fz hI2
    (try clear F21); (try clear F22); (try clear N22); (try clear F20)
    obtain ⟨aN, nus, kN, rfl, hmN, hcN⟩ := id hrow'
    have hmN5 := hsub5 _ hmN
    have hnl := Paired.len hcN
    have hnp := flat_pos t'
    obtain ⟨c0, hc0⟩ : ∃ c, (flat t')[0]? = some c := ⟨_, List.getElem?_eq_getElem hnp⟩
    obtain ⟨u0, hu0, hcell0⟩ := paired_get hcN 0 c0 hc0
    have hIR : @Ne Nat I aR := neN fun e => hoff _ (.head _) e.symm
    have hIM : @Ne Nat I aM := neN fun e => hoff _ (.tail _ (.head _)) e.symm
    have hallR : ∀ p ∈ (aM, W.listOf mv.toArray km) :: old5, p.1 ≠ aR := by
      intro p hp
      rcases List.mem_cons.mp hp with rfl | hp
      · exact fun e => hRM e.symm
      · exact offR5 p hp
    have hallM : ∀ p ∈ old5, p.1 ≠ aM := offM5
    walk_at "mine to call2"
    clear F9b N9b
    rename Fr s.heap _ _ _ => F25
    rename News s.heap _ _ _ => N25
    have offIall : ∀ p ∈ (aR, W.listOf rv.toArray kr) :: (aM, W.listOf mv.toArray km) :: old5, p.1 ≠ I := by
      intro p hp
      rcases List.mem_cons.mp hp with rfl | hp
      · exact hoff _ (.head _)
      · rcases List.mem_cons.mp hp with rfl | hp
        · exact hoff _ (.tail _ (.head _))
        · exact offI5 p hp
    have hrv5 : Paired (fun v t => RowP (fun a o => (a, o) ∈ old5) v (flat t)) rv ts := Paired.mono' hrv fun _ _ q => q.mono fun a o q => hsub5 _ (hsub4 _ (hsub3 _ (hsub2 _ q)))
    have hmv5 : Paired (TreeP fun a o => (a, o) ∈ old5) mv ts := Paired.mono' hmv fun _ _ q => q.mono fun a o q => hsub5 _ (hsub4 _ (hsub3 _ (hsub2 _ q)))
    obtain ⟨ax0, hrd⟩ := cell_reads (hcell0.mono fun a o q => (N25 _ (.tail _ (.tail _ (.tail _ (.tail _ (hsub5 _ q)))))).1)
    k_dflt (refine eq_dataH hrd (reads_list_at (News.get N25 (.head _)) rfl rfl ReadsAll.nil) (cell_sh c0) (by decide) (by show 4 + 3 + 64 < cLine; decide) ?_)
    cases c0 with
    | some a =>
      have e0 : PyData.eqv (cellD (some a)) (PyData.list []) = false := by simp [cellD, PyData.eqv, PyData.eqvAll]
      rw [e0]
      walk_at "mine to call2"
      rename Fr s.heap _ _ _ => F26
      rename News s.heap _ _ _ => N26
      exact TurnPost.go ((aR, W.listOf rv.toArray kr) :: (aM, W.listOf mv.toArray km) :: old5) F26 (news_sub N26 fun p hp => .tail _ hp) offIall ⟨aR, aM, rv, mv, ts, kr, km, old5, rfl, rfl, rfl, rfl, hRM, offR5, offM5, hrv5, hmv5, hts2, by omega, hts⟩
    | none =>
      have e0 : PyData.eqv (cellD Option.none) (PyData.list []) = true := by simp [cellD, PyData.eqv, PyData.eqvAll]
      rw [e0]
      walk_at "mine to call2"
      · rename Fr s.heap _ _ _ => F26
        rename News s.heap _ _ _ => N26
        rename ((List.length nus : Nat) : Int) ≤ 13 => h13
        rw [show rv.toArray.push (Value.ref aN) = (rv ++ [Value.ref aN]).toArray by simp, show mv.toArray.push qv = (mv ++ [qv]).toArray by simp] at N26
        refine TurnPost.go ((aR, W.listOf (rv ++ [Value.ref aN]).toArray (kr + 1)) :: (aM, W.listOf (mv ++ [qv]).toArray (km + 1)) :: old5) F26 (news_sub N26 fun p hp => .tail _ hp) ?_ ⟨aR, aM, rv ++ [Value.ref aN], mv ++ [qv], ts ++ [t'], kr + 1, km + 1, old5, rfl, rfl, rfl, rfl, hRM, offR5, offM5, paired_append hrv5 (.cons (hrow'.mono fun a o q => hsub5 _ q) .nil), paired_append hmv5 (.cons (htree'.mono fun a o q => hes5 _ q) .nil), ?_, ?_, ?_⟩
        · intro p hp
          rcases List.mem_cons.mp hp with rfl | hp
          · exact fun e => hIR e.symm
          · rcases List.mem_cons.mp hp with rfl | hp
            · exact fun e => hIM e.symm
            · exact offI5 p hp
        · simp only [List.length_append, List.length_singleton]; omega
        · simp only [List.length_append, List.length_singleton]; omega
        · intro u hu
          rcases List.mem_append.mp hu with hu | hu
          · exact hts u hu
          · rw [List.mem_singleton.mp hu]; exact ⟨head_node hc0, by omega⟩
      · rename Fr s.heap _ _ _ => F26
        rename News s.heap _ _ _ => N26
        exact TurnPost.go ((aR, W.listOf rv.toArray kr) :: (aM, W.listOf mv.toArray km) :: old5) F26 (news_sub N26 fun p hp => .tail _ hp) offIall ⟨aR, aM, rv, mv, ts, kr, km, old5, rfl, rfl, rfl, rfl, hRM, offR5, offM5, hrv5, hmv5, hts2, by omega, hts⟩
  · clear F1 N1
    rintro m1 nw h2 tk2 ⟨aR, aM, rv, mv, ts, kr, km, old, e1, e2, e3, rfl, hRM, offR, offM, hrv, hmv, hts2, htsi, hts⟩ F2 N2
    walk_at "mine to call2"
    exact hR _ _ F2.keep
end Mine
end
section
theorem PySem.Challenge.cw_dn0319_01_holds : PySem.Challenge.rw_dn0319_01.Holds := by
  refine Mine.hd ?_
  w_strict (
    k_fill
    intro w s₀ s₁ mg mb G Y fa o pm cd doc dV kV ho hd hcd hD hmg hg args vals as hpre hlay hrd hwl hlo
    have KX := kIn_of Y
    refine Ground.open G ?_
    intro T B D TE TW
    wrow_args hpre hlay hrd hwl hlo
    refine enter_call ?_
    have hfa : mg (Str.ofString "law") = some (.ref 85) := mg_of KX T.g (by k_is)
    have h1 : mg (Str.ofString "law") = some (.ref fa) := hmg
    rw [hfa] at h1
    obtain rfl : 85 = fa := by cases h1; rfl
    rename IntsAre _ _ => hI
    rename Heap.IsList _ _ _ => hLL
    rename ¬ _ < _ => hc
    refine Mine.law_call KX T hLL hI (by omega) ?_
    intro h' tk hk
    refine GoodW.toG ⟨.inl ⟨_, .bool true, [], rfl, raisesW_false ?_, .bool true, ?_, unshared_nil⟩, hk, rfl, hg⟩
    · wrow_none_raised
    · wrow_post)
end
