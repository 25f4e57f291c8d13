import PyProof.Rows.All
import Wide.All
import OpenK.AllK
import Wide.FinOn
import PySem.Challenge.RW_dn0319_05
open PySem PySem.W PyProof.Rows
set_option Elab.async false
set_option maxRecDepth 100000
set_option maxHeartbeats 8000000
section
namespace Mine
/-- a plain value of the laws -/
inductive Atom where
  | int (i : Int)
  | bool (b : Bool)
  | str (s : Str) (ok : PyData.strOk s = true)
  | none
def Atom.D : Atom → PyData
  | .int i => .int i
  | .bool b => .bool b
  | .str s _ => .str s
  | .none => .none
/-- a _ttinfo that may hold further ones -/
inductive Tree where
  | leaf (a : Atom)
  | node (x y z : Tree)
abbrev Row := List (Option Atom)
def flat : Tree → Row
  | .leaf a => [some a]
  | .node x y z => Option.none :: (flat x ++ (flat y ++ flat z))
def flats : List Tree → Row
  | [] => []
  | t :: r => flat t ++ flats r
def cellD : Option Atom → PyData
  | Option.none => .list []
  | some a => .list [a.D]
def rowD (r : Row) : PyData := .list (r.map cellD)
theorem flat_pos (t : Tree) : 0 < (flat t).length := by cases t <;> simp [flat]
theorem Atom.lay (a : Atom) : a.D.canLay0 = true := by
  cases a <;> simp [Atom.D, PyData.canLay0, *]
theorem Atom.depth0 (a : Atom) : a.D.depth = 0 := by cases a <;> simp [Atom.D, PyData.depth]
theorem Atom.sh (a : Atom) : SeqAt.shaped a.D = true := by simp [SeqAt.shaped, a.lay, a.depth0]
theorem cell_lay (c : Option Atom) : (cellD c).canLay0 = true := by
  cases c <;> simp [cellD, PyData.canLay0, PyData.canLayAll0, Atom.lay]
theorem cell_depth (c : Option Atom) : (cellD c).depth ≤ 1 := by
  cases c <;> simp [cellD, PyData.depth, PyData.depthAll, Atom.depth0]
theorem cell_sh (c : Option Atom) : SeqAt.shaped (cellD c) = true := by
  have := cell_depth c
  simp [SeqAt.shaped, cell_lay]; omega
def atomEq (a b : Atom) : Bool := PyData.eqv a.D b.D
def cellEq (c d : Option Atom) : Bool := PyData.eqv (cellD c) (cellD d)
theorem cellEq_nn : cellEq Option.none Option.none = true := by simp [cellEq, cellD, PyData.eqv, PyData.eqvAll]
theorem cellEq_ns (a : Atom) : cellEq Option.none (some a) = false := by simp [cellEq, cellD, PyData.eqv, PyData.eqvAll]
theorem cellEq_sn (a : Atom) : cellEq (some a) Option.none = false := by simp [cellEq, cellD, PyData.eqv, PyData.eqvAll]
theorem cellEq_ss (a b : Atom) : cellEq (some a) (some b) = atomEq a b := by simp [cellEq, cellD, PyData.eqv, PyData.eqvAll, atomEq]
theorem atomEq_symm (a b : Atom) : atomEq a b = atomEq b a := by
  cases a <;> cases b <;> simp only [atomEq, Atom.D, PyData.eqv] <;> exact Bool.beq_comm

/-- what is read as a row: a list of cells, each read -/
theorem reads_list {h : Heap} {v : Value} {ds : List PyData} {as : List Addr} (r : Reads h v (.list ds) as) :
    ∃ a vs bs, v = .ref a ∧ h.IsList a vs.toArray ∧ ReadsAll h vs ds bs := by
  cases r with
  | list h1 h2 h3 h4 => exact ⟨_, _, _, rfl, ⟨_, h1, h2, _, by simpa using h3⟩, h4⟩
theorem readsAll_get {h : Heap} : ∀ {vs : List Value} {ds : List PyData} {as : List Addr}, ReadsAll h vs ds as → ∀ (i : Nat) (d : PyData), ds[i]? = some d → ∃ v bs, vs[i]? = some v ∧ Reads h v d bs
  | _, _, _, .nil, i, d, e => by simp at e
  | _, _, _, .cons r rs, 0, d, e => by simp at e; subst e; exact ⟨_, _, rfl, r⟩
  | _, _, _, .cons r rs, i + 1, d, e => by simpa using readsAll_get rs i d (by simpa using e)
end Mine
namespace Mine
/-- the stack machine of _law_made: what the cells from a place on make -/
def stk : Row → List Tree
  | [] => []
  | some a :: r => .leaf a :: stk r
  | Option.none :: r => match stk r with
    | x :: y :: z :: q => .node x y z :: q
    | _ => []
theorem stk_flat : ∀ (t : Tree) (r : Row), stk (flat t ++ r) = t :: stk r := by
  intro t
  induction t with
  | leaf a => intro r; simp [flat, stk]
  | node x y z ix iy iz => intro r; simp only [flat, List.cons_append, List.append_assoc, stk, ix, iy, iz]
theorem stk_flats : ∀ ts : List Tree, stk (flats ts) = ts
  | [] => rfl
  | t :: r => by rw [flats, stk_flat, stk_flats r]
theorem flats_suffix : ∀ (pre suf : Row) (us : List Tree), flats us = pre ++ suf → ∃ ts, suf = flats ts
  | [], suf, us, h => ⟨us, by simpa using h.symm⟩
  | c :: pre, suf, [], h => by simp [flats] at h
  | c :: pre, suf, .leaf a :: us, h => by
    simp only [flats, flat, List.cons_append, List.nil_append, List.cons.injEq] at h
    exact flats_suffix pre suf us h.2
  | c :: pre, suf, .node x y z :: us, h => by
    simp only [flats, flat, List.cons_append, List.cons.injEq] at h
    refine flats_suffix pre suf (x :: y :: z :: us) ?_
    rw [← h.2]; simp [flats]
/-- behind a marker stand three trees -/
theorem stk_marker {t : Tree} {pre suf : Row} (h : flat t = pre ++ Option.none :: suf) : ∃ x y z q, stk suf = x :: y :: z :: q ∧ stk (Option.none :: suf) = .node x y z :: q := by
  obtain ⟨ts, e⟩ := flats_suffix pre (Option.none :: suf) [t] (by simpa [flats] using h)
  cases ts with
  | nil => simp [flats] at e
  | cons u us =>
    cases u with
    | leaf a => simp [flats, flat] at e
    | node x y z =>
      have e1 : suf = flats (x :: y :: z :: us) := by
        simp only [flats, flat, List.cons_append, List.cons.injEq] at e
        rw [e.2]; simp [flats]
      have e2 : stk suf = x :: y :: z :: us := by rw [e1, stk_flats]
      exact ⟨x, y, z, us, e2, by simp [stk, e2]⟩
theorem flat_whole (t : Tree) : stk (flat t) = [t] := by simpa [stk] using stk_flat t []
end Mine
namespace Mine
theorem stk_len : ∀ r : Row, (stk r).length ≤ r.length
  | [] => by simp [stk]
  | some a :: r => by simp [stk, stk_len r]
  | Option.none :: r => by
    have := stk_len r
    simp only [stk]
    split
    · rename_i h; rw [h] at this; simp only [List.length_cons] at this ⊢; omega
    · simp
end Mine
namespace Mine
theorem readsAll_len {h : Heap} : ∀ {vs : List Value} {ds : List PyData} {as : List Addr}, ReadsAll h vs ds as → vs.length = ds.length
  | _, _, _, .nil => rfl
  | _, _, _, .cons _ rs => by simp [readsAll_len rs]
end Mine
namespace Mine
/-- the first place where two rows differ tells: none: refused -/
def dueR : Row → Row → Option Bool
  | c :: r, d :: r' => if cellEq c d then dueR r r' else if c.isNone || d.isNone then Option.none else some false
  | _, _ => some true
def refusedS : Str := Str.ofString "refused"
/-- the answers as they are written -/
def dueD : Option Bool → PyData
  | Option.none => .list [.str refusedS, .str refusedS, .str refusedS]
  | some b => .list [.bool b, .bool b, .bool !b]
end Mine
namespace Mine
/-- none: refused; some b: the answer -/
def cmpT : Tree → Tree → Option Bool
  | .leaf a, .leaf b => some (atomEq a b)
  | .leaf _, .node _ _ _ => Option.none
  | .node _ _ _, .leaf _ => Option.none
  | .node x y z, .node x' y' z' => match cmpT x x' with
    | some true => (match cmpT y y' with
      | some true => cmpT z z'
      | r => r)
    | r => r
theorem cmpT_symm : ∀ t u : Tree, cmpT t u = cmpT u t := by
  intro t
  induction t with
  | leaf a =>
    intro u
    cases u with
    | leaf b => simp [cmpT, atomEq_symm a b]
    | node => simp [cmpT]
  | node x y z ix iy iz =>
    intro u
    cases u with
    | leaf b => simp [cmpT]
    | node x' y' z' => simp only [cmpT, ix x', iy y', iz z']
/-- the rows tell what the trees tell -/
theorem dueR_flat : ∀ (t u : Tree) (r r' : Row), dueR (flat t ++ r) (flat u ++ r') = match cmpT t u with
    | some true => dueR r r'
    | q => q := by
  intro t
  induction t with
  | leaf a =>
    intro u r r'
    cases u with
    | leaf b =>
      simp only [flat, List.cons_append, List.nil_append, dueR, cellEq_ss, cmpT]
      cases atomEq a b <;> simp
    | node x' y' z' => simp [flat, dueR, cellEq_sn, cmpT]
  | node x y z ix iy iz =>
    intro u r r'
    cases u with
    | leaf b => simp [flat, dueR, cellEq_ns, cmpT]
    | node x' y' z' =>
      simp only [flat, List.cons_append, List.append_assoc, dueR, cellEq_nn, if_true, ix, iy, iz, cmpT]
      cases cmpT x x' with
      | none => rfl
      | some b =>
        cases b with
        | false => rfl
        | true =>
          cases cmpT y y' with
          | none => rfl
          | some b => cases b <;> rfl
theorem dueR_trees (t u : Tree) : dueR (flat t) (flat u) = cmpT t u := by
  have := dueR_flat t u [] []
  simp only [List.append_nil] at this
  rw [this]
  cases cmpT t u with
  | none => rfl
  | some b => cases b <;> rfl
end Mine
namespace Mine
def Tree.isNode : Tree → Bool
  | .leaf _ => false
  | .node _ _ _ => true
end Mine
namespace Mine
theorem nat_fmod (a b : Nat) : Int.fmod (a : Int) (b : Int) = ((a % b : Nat) : Int) := by
  rw [Int.fmod_eq_emod_of_nonneg _ (by omega)]; simp
theorem nat_fdiv (a b : Nat) : Int.fdiv (a : Int) (b : Int) = ((a / b : Nat) : Int) := by
  rw [Int.fdiv_eq_ediv_of_nonneg _ (by omega)]; simp
end Mine
namespace Mine
/-- a place in a row is the head of a part; another part may stand for it -/
theorem tree_split : ∀ (t : Tree) (p : Nat), p < (flat t).length → ∃ (pre : Row) (sub : Tree) (post : Row), flat t = pre ++ (flat sub ++ post) ∧ pre.length = p ∧ ∀ u : Tree, ∃ t' : Tree, flat t' = pre ++ (flat u ++ post) := by
  intro t
  induction t with
  | leaf a =>
    intro p hp
    have : p = 0 := by simp [flat] at hp; omega
    subst this
    exact ⟨[], .leaf a, [], by simp, rfl, fun u => ⟨u, by simp⟩⟩
  | node x y z ix iy iz =>
    intro p hp
    cases p with
    | zero => exact ⟨[], .node x y z, [], by simp, rfl, fun u => ⟨u, by simp⟩⟩
    | succ q =>
      simp only [flat, List.length_cons, List.length_append] at hp
      by_cases h1 : q < (flat x).length
      · obtain ⟨pre, sub, post, e, hl, hu⟩ := ix q h1
        refine ⟨Option.none :: pre, sub, post ++ (flat y ++ flat z), by simp [flat, e], by simp [hl], fun u => ?_⟩
        obtain ⟨t', ht'⟩ := hu u
        exact ⟨.node t' y z, by simp [flat, ht']⟩
      · by_cases h2 : q - (flat x).length < (flat y).length
        · obtain ⟨pre, sub, post, e, hl, hu⟩ := iy _ h2
          refine ⟨Option.none :: (flat x ++ pre), sub, post ++ flat z, by simp [flat, e], by simp [hl]; omega, fun u => ?_⟩
          obtain ⟨t', ht'⟩ := hu u
          exact ⟨.node x t' z, by simp [flat, ht']⟩
        · obtain ⟨pre, sub, post, e, hl, hu⟩ := iz (q - (flat x).length - (flat y).length) (by omega)
          refine ⟨Option.none :: (flat x ++ (flat y ++ pre)), sub, post, by simp [flat, e], by simp [hl]; omega, fun u => ?_⟩
          obtain ⟨t', ht'⟩ := hu u
          exact ⟨.node x y t', by simp [flat, ht']⟩
end Mine
end
section
namespace Mine
/-- what a turn leaves: the iterator as it was, the ledger of the next turn -/
def TurnPost (h₀ : Heap) (L I : Addr) (it : Obj) (J : (Str → Option Value) → List (Addr × Obj) → Prop) (s₁ : Shared) (Q : Flow → Shared → Prop) (f : Flow) (s₂ : Shared) : Prop :=
  match f with
  | .ret v => Q (.ret v) s₂
  | .brk => Q .next s₂
  | _ => ∃ h' tk m' nw', s₂ = { s₁ with heap := h', toks := tk } ∧ Fr h₀ L h' m' ∧ News h₀ L h' ((I, it) :: nw') ∧ (∀ p ∈ nw', p.1 ≠ I) ∧ J m' nw'
theorem TurnPost.go {h₀ h' : Heap} {L I : Addr} {it : Obj} {J : (Str → Option Value) → List (Addr × Obj) → Prop} {s₁ : Shared} {Q : Flow → Shared → Prop} {m' : Str → Option Value} {tk : Nat} (nw' : List (Addr × Obj))
    (F : Fr h₀ L h' m') (N : News h₀ L h' ((I, it) :: nw')) (off : ∀ p ∈ nw', p.1 ≠ I) (j : J m' nw') : TurnPost h₀ L I it J s₁ Q .next { s₁ with heap := h', toks := tk } := ⟨h', tk, m', nw', rfl, F, N, off, j⟩
theorem loop_gen {prog : Program} {w : World} {A : Around} {E : Value → Shared → Prop} {s : Shared} {env : Env} {h₀ : Heap} {x : Str} {body : List Stmt} {Q : Flow → Shared → Prop}
    {I : Addr} {fp : List Addr} {n : Nat} {P : Nat → Value → Prop} {St : Nat → Heap → Prop} {m₀ : Str → Option Value} {news : List (Addr × Obj)} {it0 : Obj}
    (W : Walks prog w A I fp [I] n P St) (hfp : ∀ b ∈ fp, b = I ∨ ∃ o, h₀.get? b = some o) (hIfp : I ∈ fp) (hlive : ∀ i h, St i h → ∃ o, h.get? I = some o) (hst : St 0 s.heap) (F : Fr h₀ env.locals s.heap m₀)
    (N : News h₀ env.locals s.heap ((I, it0) :: news)) (hoff : ∀ p ∈ news, p.1 ≠ I) (J : Nat → (Str → Option Value) → List (Addr × Obj) → Prop) (h0 : J 0 m₀ news)
    (turn : ∀ i v m₁ nw it h tk, i < n → P i v → J i m₁ nw → (∀ p ∈ nw, p.1 ≠ I) → Fr h₀ env.locals h (fun y => if y = x then some v else m₁ y) → News h₀ env.locals h ((I, it) :: nw) →
      wpAny (model prog w) A (execs body env) (TurnPost h₀ env.locals I it (J (i + 1)) { s with heap := h, toks := tk } Q) E { s with heap := h, toks := tk })
    (done : ∀ m₁ nw h tk, J n m₁ nw → Fr h₀ env.locals h m₁ → News h₀ env.locals h nw → Q .next { s with heap := h, toks := tk }) :
    LoopAtV prog w A h₀ env x body Q E (.ref I) s := by
  have hI := N _ (List.mem_cons_self ..)
  have hLf : env.locals ∉ fp := by
    intro hm
    rcases hfp _ hm with e | ⟨o, e⟩
    · exact hI.2.1 e.symm
    · exact absurd (Nat.lt_of_lt_of_le (Heap.lt_size e) F.above) (Nat.lt_irrefl _)
  refine ⟨I, fp, [I], n, P, St, m₀, news, J, rfl, W, hLf, ?_, ?_, hst, F, fun p hp => N p (List.mem_cons_of_mem _ hp), h0, ?_, ?_⟩
  · intro b hb; rw [List.mem_singleton.mp hb]; exact hI.2.2
  · intro p hp hb; exact hoff p hp (List.mem_singleton.mp hb)
  · rintro i v m₁ nw s₁ own ⟨h, tk, rfl⟩ hi hP hJ hofs hown hget hall hst₁ F₁ N₁
    obtain ⟨it, hit⟩ := hlive _ _ hst₁
    have hmemI := hall I hIfp hI.2.2 _ hit
    have hofs' : ∀ p ∈ nw, p.1 ≠ I := fun p hp e => hofs p hp (List.mem_singleton.mpr e)
    have own_eq : ∀ p ∈ own, p = (I, it) := by
      intro p hp
      have hp1 : p.1 = I := by
        rcases hfp _ (hown p hp) with e | ⟨o, e⟩
        · exact e
        · have := (N₁ p (List.mem_append_left _ hp)).2.2; rw [e] at this; cases this
      have := hget p hp
      rw [hp1, hit] at this
      obtain ⟨p1, p2⟩ := p
      simp only at hp1 this
      subst hp1
      rw [Option.some.inj this]
    have N₂ : News h₀ env.locals h ((I, it) :: nw) := by
      intro p hp
      rcases List.mem_cons.mp hp with rfl | hp
      · exact N₁ _ (List.mem_append_left _ hmemI)
      · exact N₁ _ (List.mem_append_right _ hp)
    refine wpAny_mono (turn i v m₁ nw it h tk hi hP hJ hofs' F₁ N₂) (fun f s₂ p => ?_) fun _ _ e => e
    have fin : (∃ h' tk' m' nw', s₂ = { ({ s with heap := h, toks := tk } : Shared) with heap := h', toks := tk' } ∧ Fr h₀ env.locals h' m' ∧ News h₀ env.locals h' ((I, it) :: nw') ∧ (∀ p ∈ nw', p.1 ≠ I) ∧ J (i + 1) m' nw') →
        LoopStepU h₀ env.locals [I] own (J (i + 1)) { s with heap := h, toks := tk } .next s₂ := by
      rintro ⟨h', tk', m', nw', e, F', N', ho, hj⟩
      refine ⟨rfl, h', tk', m', nw', e, F', fun p hp => ?_, fun p hp hb => ho p hp (List.mem_singleton.mp hb), hj⟩
      rcases List.mem_append.mp hp with hp | hp
      · rw [own_eq p hp]; exact N' _ (List.mem_cons_self ..)
      · exact N' _ (List.mem_cons_of_mem _ hp)
    cases f with
    | ret v => exact .ret p
    | brk => exact .brk p
    | next => exact .next (fin p)
    | cont => exact .cont (fin p)
  · intro h' tk m' nw F' N' _ hJ
    exact done m' nw h' tk hJ F' N'
/-- a loop over reversed(xs), xs a list of the base -/
theorem loop_rev {prog : Program} {w : World} {A : Around} {E : Value → Shared → Prop} {s : Shared} {env : Env} {h₀ : Heap} {x : Str} {body : List Stmt} {Q : Flow → Shared → Prop}
    {I ax : Addr} {vs : List Value} {m₀ : Str → Option Value} {news : List (Addr × Obj)} (hh : A.handled = none) (hl : h₀.IsList ax vs.toArray) (F : Fr h₀ env.locals s.heap m₀)
    (N : News h₀ env.locals s.heap ((I, revObj ax ((vs.length : Int) - 1)) :: news)) (hoff : ∀ p ∈ news, p.1 ≠ I) (J : Nat → (Str → Option Value) → List (Addr × Obj) → Prop) (h0 : J 0 m₀ news)
    (turn : ∀ i v m₁ nw it h tk, i < vs.length → vs[vs.length - 1 - i]? = some v → J i m₁ nw → (∀ p ∈ nw, p.1 ≠ I) → Fr h₀ env.locals h (fun y => if y = x then some v else m₁ y) → News h₀ env.locals h ((I, it) :: nw) →
      wpAny (model prog w) A (execs body env) (TurnPost h₀ env.locals I it (J (i + 1)) { s with heap := h, toks := tk } Q) E { s with heap := h, toks := tk })
    (done : ∀ m₁ nw h tk, J vs.length m₁ nw → Fr h₀ env.locals h m₁ → News h₀ env.locals h nw → Q .next { s with heap := h, toks := tk }) :
    wpAny (model prog w) A (pyIter (.ref I)) (fun it s₂ => LoopAtV prog w A h₀ env x body Q E it s₂) E s := by
  have hI := N _ (List.mem_cons_self ..)
  obtain ⟨ol, hol, _⟩ := id hl
  have hne : ax ≠ I := fun e => by have := hI.2.2; rw [← e, hol] at this; cases this
  have hit : s.heap.IsRevIter I ax ((vs.length : Int) - 1) := ⟨_, hI.1, rfl, rfl⟩
  refine wpAny_pyIter_revIter hit ?_
  have W := Walks.listRev (prog := prog) (w := w) hh I ax hne vs.toArray
  have hlen : vs.toArray.size = vs.length := by simp
  rw [hlen] at W
  refine loop_gen W (fun b hb => ?_) (List.mem_cons_self ..) (fun i h st => ?_) ⟨Nat.zero_le _, ?_, hl.at fun o e => F.keep ax o e⟩ F N hoff J h0 (fun i v m₁ nw it h tk hi hP => turn i v m₁ nw it h tk hi (by simpa using hP)) done
  · rcases List.mem_cons.mp hb with e | hb
    · exact .inl e
    · rw [List.mem_singleton.mp hb]; exact .inr ⟨_, hol⟩
  · obtain ⟨o, e, _⟩ := st.2.1; exact ⟨o, e⟩
  · have e : (vs.length : Int) - 1 - ((0 : Nat) : Int) = (vs.length : Int) - 1 := by omega
    rw [e]; exact hit
theorem news_sub {h₀ h : Heap} {L : Addr} {l l' : List (Addr × Obj)} (N : News h₀ L h l) (k : ∀ p ∈ l', p ∈ l) : News h₀ L h l' := fun p hp => N p (k p hp)
theorem news_rot1 {h₀ h : Heap} {L : Addr} {e i a : Addr × Obj} {old : List (Addr × Obj)} (N : News h₀ L h (e :: i :: a :: old)) : News h₀ L h (i :: a :: e :: old) :=
  news_sub N (by intro p hp; simp only [List.mem_cons] at hp ⊢; grind)
theorem news_rot3 {h₀ h : Heap} {L : Addr} {e f g i a : Addr × Obj} {old : List (Addr × Obj)} (N : News h₀ L h (e :: f :: g :: i :: a :: old)) : News h₀ L h (i :: a :: e :: f :: g :: old) :=
  news_sub N (by intro p hp; simp only [List.mem_cons] at hp ⊢; grind)
/-- the length of a list -/
theorem len_at {prog : Program} {w : World} {A : Around} {E : Value → Shared → Prop} {s : Shared} {l : Addr} {vs : List Value} {Q : Value → Shared → Prop} (hl : s.heap.IsList l vs.toArray) (hfit : vs.length < 1000000)
    (h : Q (.int (vs.length : Int) (s.toks + 1)) { s with toks := s.toks + 1 + 1 }) : wpAny (model prog w) A (call (.builtin "len") [.ref l]) Q E s := by
  have e : ((vs.toArray.size : Nat) : Int) = (vs.length : Int) := by simp
  refine len_list hl (by rw [e]; omega) ?_
  rw [e]; exact h
/-- a loop over range(n) -/
theorem loop_range {prog : Program} {w : World} {A : Around} {E : Value → Shared → Prop} {s : Shared} {env : Env} {h₀ : Heap} {x : Str} {body : List Stmt} {Q : Flow → Shared → Prop}
    {r : Addr} {n : Nat} {b : Int} {t u v : Tok} {m₀ : Str → Option Value} {news : List (Addr × Obj)} (hh : A.handled = none) (hr : IsRange s.heap r 0 b 1 t u v) (hb : b = (n : Int)) (hn : n < 1000000) (F : Fr h₀ env.locals s.heap m₀)
    (N : News h₀ env.locals s.heap news) (J : Nat → (Str → Option Value) → List (Addr × Obj) → Prop) (h0 : J 0 m₀ news)
    (turn : ∀ (i : Nat) tk₁ m₁ nw I it h tk, i < n → J i m₁ nw → (∀ p ∈ nw, p.1 ≠ I) → Fr h₀ env.locals h (fun y => if y = x then some (.int (i : Int) tk₁) else m₁ y) → News h₀ env.locals h ((I, it) :: nw) →
      wpAny (model prog w) A (execs body env) (TurnPost h₀ env.locals I it (J (i + 1)) { s with heap := h, toks := tk } Q) E { s with heap := h, toks := tk })
    (done : ∀ m₁ nw h tk, J n m₁ nw → Fr h₀ env.locals h m₁ → News h₀ env.locals h nw → Q .next { s with heap := h, toks := tk }) :
    wpAny (model prog w) A (pyIter (.ref r)) (fun it s₂ => LoopAtV prog w A h₀ env x body Q E it s₂) E s := by
  subst hb
  have hsz : Builtin.Range.rangeSize 0 (n : Int) 1 = (n : Int) := by
    unfold Builtin.Range.rangeSize; simp; omega
  refine wpAny_pyIter_range hr (small_one (by omega) (by omega) (by omega) (by omega)) ?_
  rw [hsz]
  have W := PyProof.Rows.LCg.range_walks (prog := prog) (w := w) (I := s.heap.objs.size) hh 0 n
  refine loop_gen (it0 := { cls := .type "range_iterator", data := .fields #[rawInt 0, rawInt (n : Int), rawInt 1] }) W (fun b hb => .inl (List.mem_singleton.mp hb)) (List.mem_cons_self ..) (fun i h st => ⟨_, st⟩) ?_ (F.push _) (News.push F N _) (fun p hp => Nat.ne_of_lt (Heap.lt_size (N p hp).1)) J h0
    (fun i v m₁ nw it h tk hi hP => ?_) done
  · show IsRangeIter _ _ _ _ _
    simpa using Heap.get?_push_size _ rfl
  · obtain ⟨t', rfl⟩ := hP
    have e : (0 : Int) + (i : Int) = (i : Int) := by omega
    rw [e]
    exact turn i t' m₁ nw _ it h tk hi
end Mine
end
section
namespace Mine
/-- as TurnPost, the base may change -/
def TurnB (L I : Addr) (it : Obj) (J : Heap → (Str → Option Value) → List (Addr × Obj) → Prop) (s₁ : Shared) (Q : Flow → Shared → Prop) (f : Flow) (s₂ : Shared) : Prop :=
  match f with
  | .ret v => Q (.ret v) s₂
  | .brk => Q .next s₂
  | _ => ∃ g' h' tk m' nw', s₂ = { s₁ with heap := h', toks := tk } ∧ Fr g' L h' m' ∧ News g' L h' ((I, it) :: nw') ∧ (∀ p ∈ nw', p.1 ≠ I) ∧ J g' m' nw'
theorem TurnB.go {g' h' : Heap} {L I : Addr} {it : Obj} {J : Heap → (Str → Option Value) → List (Addr × Obj) → Prop} {s₁ : Shared} {Q : Flow → Shared → Prop} {m' : Str → Option Value} {tk : Nat} (nw' : List (Addr × Obj))
    (F : Fr g' L h' m') (N : News g' L h' ((I, it) :: nw')) (off : ∀ p ∈ nw', p.1 ≠ I) (j : J g' m' nw') : TurnB L I it J s₁ Q .next { s₁ with heap := h', toks := tk } := ⟨g', h', tk, m', nw', rfl, F, N, off, j⟩
theorem rangeB {prog : Program} {w : World} {A : Around} {s : Shared} {env : Env} {x : Str} {px : Pos} {body : List Stmt} {Q : Flow → Shared → Prop}
    {g : Heap} {r : Addr} {n : Nat} {t u v : Tok} {m₀ : Str → Option Value} {news : List (Addr × Obj)} (hh : A.handled = none) (hr : IsRange s.heap r 0 (n : Int) 1 t u v) (hn : n < 1000000)
    (hx : env.kindOf x = some .local) (hp : (env.scope.kind == .class || (env.scope.kind == .module && env.locals != env.globals)) = false)
    (F : Fr g env.locals s.heap m₀) (N : News g env.locals s.heap news) (J : Nat → Heap → (Str → Option Value) → List (Addr × Obj) → Prop) (h0 : J 0 g m₀ news)
    (turn : ∀ (i : Nat) tk₁ g₁ m₁ nw I it h tk, i < n → J i g₁ m₁ nw → (∀ p ∈ nw, p.1 ≠ I) → Fr g₁ env.locals h (fun y => if y = x then some (.int (i : Int) tk₁) else m₁ y) → News g₁ env.locals h ((I, it) :: nw) →
      wpAny (model prog w) A (execs body env) (TurnB env.locals I it (J (i + 1)) { s with heap := h, toks := tk } Q) (fun _ _ => False) { s with heap := h, toks := tk })
    (done : ∀ g₁ m₁ nw h tk, J n g₁ m₁ nw → Fr g₁ env.locals h m₁ → News g₁ env.locals h nw → Q .next { s with heap := h, toks := tk }) :
    wpAny (model prog w) A (pyIter (.ref r)) (fun it s₂ => codeAny (model prog w) A (.forLoop (.Name x px) it body [] env)
      (fun r s' => match r with | .ok f => Q f s' | .error e => cameBackBy (model prog w) A env (fun _ _ => False) e s') s₂) (fun _ _ => False) s := by
  have hsz : Builtin.Range.rangeSize 0 (n : Int) 1 = (n : Int) := by
    unfold Builtin.Range.rangeSize; simp; omega
  refine wpAny_pyIter_range hr (small_one (by omega) (by omega) (by omega) (by omega)) ?_
  rw [hsz]
  have W := PyProof.Rows.LCg.range_walks (prog := prog) (w := w) (I := s.heap.objs.size) hh 0 n
  have N0 := News.push F N ({ cls := .type "range_iterator", data := .fields #[rawInt 0, rawInt (n : Int), rawInt 1] } : Obj)
  have F0 := F.push ({ cls := .type "range_iterator", data := .fields #[rawInt 0, rawInt (n : Int), rawInt 1] } : Obj)
  have hI := N0 _ (List.mem_cons_self ..)
  have e0 : ∀ i : Nat, (0 : Int) + (i : Int) = (i : Int) := fun i => by omega
  have noted : ∀ {α : Type} {t : Sem α} {Q' : α → Shared → Prop} {s' : Shared}, wpAny (model prog w) A t Q' (fun _ _ => False) s' →
      wpAny (model prog w) A t Q' (notedBy (model prog w) A env fun e s' => cameBackBy (model prog w) A env (fun _ _ => False) e s') s' :=
    fun h => wpAny_mono h (fun _ _ x => x) fun _ _ x => x.elim
  refine codeAny_forLoop (fun k s' => ∃ h' tk g' m' nw' i, s' = { s with heap := h', toks := tk } ∧ IsRangeIter h' s.heap.objs.size (0 + (i : Nat) * 1) ((n : Int) - (i : Nat)) 1 ∧ Fr g' env.locals h' m' ∧ News g' env.locals h' nw' ∧ (∀ p ∈ nw', p.1 ≠ s.heap.objs.size) ∧
      g'.get? s.heap.objs.size = none ∧ J i g' m' nw' ∧ i ≤ n ∧ k = n + 1 - i) ?_ (n + 1)
    ⟨_, s.toks, g, m₀, news, 0, rfl, by show IsRangeIter _ _ _ _ _; simpa using Heap.get?_push_size _ rfl, F0, fun p hp => N0 p (List.mem_cons_of_mem _ hp), fun p hp => Nat.ne_of_lt (Heap.lt_size (N p hp).1), hI.2.2, h0, Nat.zero_le _, rfl⟩
  rintro k s' ⟨h', tk, g', m', nw', i, rfl, hst', F', N', hnw', hg', hJ, hi, rfl⟩
  have hIL : s.heap.objs.size ≠ env.locals := hI.2.1
  have next : ∀ h₁ : Heap, (∀ b o, b ∉ [s.heap.objs.size] → h'.get? b = some o → h₁.get? b = some o) → Fr g' env.locals h₁ m' ∧ News g' env.locals h₁ nw' := fun h₁ hk₁ =>
    ⟨⟨F'.ns.at' fun o e => hk₁ _ o (fun q => hIL (List.mem_singleton.mp q).symm) e, fun b o e => hk₁ b o (fun q => by rw [List.mem_singleton.mp q, hg'] at e; cases e) (F'.keep b o e), F'.above⟩,
      fun p hp => ⟨hk₁ _ _ (fun q => hnw' p hp (List.mem_singleton.mp q)) (N' p hp).1, (N' p hp).2⟩⟩
  by_cases hlt : i < n
  · refine W.item i _ _ _ hlt hst' fun v h₁ tk₁ hP hst₁ hk₁ => ?_
    obtain ⟨F₁, N₁⟩ := next h₁ hk₁
    obtain ⟨t', rfl⟩ := hP
    rw [e0 i]
    refine noted (wpAny_assign_Name (wpAny_storeName_local hx F₁.ns (fun h₂ hn₂ hs₂ => ?_) hp))
    have F₂ := F₁.set hn₂ hs₂
    have hit₂ : IsRangeIter h₂ s.heap.objs.size (0 + ((i + 1 : Nat)) * 1) ((n : Int) - ((i + 1 : Nat))) 1 := (hs₂.2 _ hIL).trans hst₁
    have N₂ : News g' env.locals h₂ ((s.heap.objs.size, _) :: nw') := fun p hp => by
      rcases List.mem_cons.mp hp with rfl | hp
      · exact ⟨hit₂, hIL, hg'⟩
      · exact (N₁.set hs₂) p hp
    refine noted (wpAny_mono (turn i t' g' m' nw' _ _ h₂ _ hlt hJ hnw' F₂ N₂) (fun f s₃ h₃ => ?_) fun _ _ e => e)
    cases f with
    | ret v => exact h₃
    | brk => exact h₃
    | cont =>
      obtain ⟨g₃, h₃', tk₃, m₂, news₂, rfl, F₃, N₃, ha₃, hJ₃⟩ := h₃
      have hI₃ := N₃ _ (List.mem_cons_self ..)
      exact ⟨n + 1 - (i + 1), by omega, h₃', tk₃, g₃, m₂, news₂, i + 1, rfl, hI₃.1, F₃, fun p hp => N₃ p (List.mem_cons_of_mem _ hp), ha₃, hI₃.2.2, hJ₃, hlt, rfl⟩
    | next =>
      obtain ⟨g₃, h₃', tk₃, m₂, news₂, rfl, F₃, N₃, ha₃, hJ₃⟩ := h₃
      have hI₃ := N₃ _ (List.mem_cons_self ..)
      exact ⟨n + 1 - (i + 1), by omega, h₃', tk₃, g₃, m₂, news₂, i + 1, rfl, hI₃.1, F₃, fun p hp => N₃ p (List.mem_cons_of_mem _ hp), ha₃, hI₃.2.2, hJ₃, hlt, rfl⟩
  · have hin : i = n := by omega
    subst hin
    refine W.done _ _ _ hst' fun h₁ tk₁ hk₁ => noted (wpAny_execs_nil ?_)
    obtain ⟨F₁, N₁⟩ := next h₁ hk₁
    exact done g' m' nw' h₁ tk₁ hJ F₁ N₁
end Mine
end
section
namespace Mine
open_top hd for PySem.Challenge.rw_dn0319_05
end Mine
end
section
namespace Mine
/-- the written part, the view, the program -/
abbrev PG : Program := PySem.Challenge.rw_dn0319_05.row.toRowW.prog
abbrev TopAt (mean : ExcName → Option Value) (mg mb : Str → Option Value) (h : Heap) : Prop :=
  Top hd.view_39 (looseW hd.view_39 [Str.ofString "_ttinfo"]) mean mg mb h

theorem enter0 {prog : Program} {w : World} {A : Around} {s : Shared} {K : Frag}
    {R : Result → Shared → Prop} {name qual : Str} {params : Arguments} {body : List Stmt} {scope : Scope} {dV kV doc pm cdv ct oc : Value} {an od : Option Addr} {osl : Array (Option Value)} {f : Addr} {args : Args} {binds : List (Str × Value)}
    (X : K.In s.heap) (hlim : s.heap.NoLimit)
    (ho : K.lookup f = some ⟨oc, od, .func (fnOf name qual params body scope dV kV doc pm an cdv ct), osl⟩) (hcd : codeIn K cdv qual = true) (hroom : A.depth < recursionLimit)
    (hbind : BindsTo s (fnOf name qual params body scope dV kV doc pm an cdv ct) args binds) (hloc : ∀ y ∈ binds, scope.names.lookup y.1 = some .local)
    (h : ∀ h₁ L', Fr s.heap L' h₁ (fun y => binds.reverse.lookup y) → News s.heap L' h₁ [] →
      wpAny (model prog w) (A.deeper (envOf qual scope L' f cdv)) (execs body (envOf qual scope L' f cdv))
        (fun fl s' => R (.ok (.ret (match fl with | .ret v => v | _ => .none))) s')
        (fun e s' => wpAny (model prog w) (A.deeper (envOf qual scope L' f cdv)) (leaving (envOf qual scope L' f cdv) e) (fun _ s'' => R (.error e) s'') (fun e' s'' => R (.error e') s'') s')
        { s with heap := h₁, toks := s.toks + binds.length })
    (hco : scope.isCoroutine = false := by rfl) (hgen : scope.isGenerator = false := by rfl) (hk : scope.kind = .function := by rfl)
    (hcell : ∀ x ∈ scope.names, x.2 ≠ .cell := by decide) : codeAny (model prog w) A (.call (.ref f) args) R s := by
  refine codeAny_call_def (fd := fnOf name qual params body scope dV kV doc pm an cdv ct) (body := body) (binds := binds) hroom (X _ _ ho) rfl hlim (codeRec_of X hcd) rfl hbind hcell hloc (fun h₁ hns hk₁ => ?_) hco hgen hk
  exact h h₁ _ ⟨hns, hk₁, Nat.le_refl _⟩ News.nil

def known : List (Str × Value) → (Str → Option Value) → Str → Option Value
  | [], m => m
  | p :: r, m => fun z => if z = p.1 then some p.2 else known r m z
theorem known_eq : ∀ (l : List (Str × Value)) (m : Str → Option Value), (∀ p ∈ l, m p.1 = some p.2) → known l m = m
  | [], _, _ => rfl
  | p :: r, m, h => by
    funext z
    by_cases hz : z = p.1
    · subst hz; simp only [known, if_pos]; exact (h p (.head _)).symm
    · simp only [known, if_neg hz]; rw [known_eq r m fun q hq => h q (.tail _ hq)]
theorem fr_known {h₀ h : Heap} {L : Addr} {m : Str → Option Value} (l : List (Str × Value)) (F : Fr h₀ L h m) (e : ∀ p ∈ l, m p.1 = some p.2) :
    Fr h₀ L h (known l m) := by rw [known_eq l m e]; exact F
def HasInt (m : Str → Option Value) (x : Str) (i : Int) : Prop := ∃ t, m x = some (.int i t)
theorem HasInt.of {m : Str → Option Value} {x : Str} {i j : Int} {t : Tok} (e : m x = some (.int i t)) (h : i = j) : HasInt m x j := ⟨t, h ▸ e⟩
/-- an item of a list at a place in it -/
theorem item_at {prog : Program} {w : World} {A : Around} {E : Value → Shared → Prop} {s : Shared} {value slice : PySem.Expr} {l : Addr} {vs : List Value} {k : Int} {u : Tok} {v : Value} {Q : Value → Shared → Prop}
    (hl : s.heap.IsList l vs.toArray) (h0 : 0 ≤ k) (hhi : k < 2 ^ 63) (hx : vs[k.toNat]? = some v) (h : Q v s)
    (hs : subscripted slice false (.ref l) (.int k u) = operate [.ref l, .int k u] (getItem (.ref l) (.int k u)) := by with_unfolding_all rfl) :
    wpAny (model prog w) A (subscriptTail value slice (.ref l) (.int k u)) Q E s :=
  tail_any hl.typeIs slot_list_getitem.lookup (wpAny_getItem_list hl h0 hhi (by simpa using hx) h) hs
theorem kept_list {h h' : Heap} {l : Addr} {items : Array Value} (hl : h.IsList l items) (hk : ∀ b o, h.get? b = some o → h'.get? b = some o) : h'.IsList l items := hl.at fun o e => hk l o e
theorem fr_cut {h₀ h : Heap} {L : Addr} {m : Str → Option Value} (l : List (Str × Value)) (F : Fr h₀ L h m) (e : ∀ p ∈ l, m p.1 = some p.2) :
    ∃ m', Fr h₀ L h (known l m') := ⟨m, fr_known l F e⟩
theorem fr_int {h₀ h : Heap} {L : Addr} {m : Str → Option Value} {x : Str} {i j : Int} {t : Tok} (_F : Fr h₀ L h m) (e : m x = some (.int i t)) (h : i = j) : ∃ t, m x = some (.int j t) := ⟨t, h ▸ e⟩
end Mine
end
section
namespace Mine
/-- an object of _ttinfo: its three parts -/
abbrev nodeObj (dx : Addr) (a b c : Value) : Obj := { cls := .ref 47, dict := some dx, data := .plain, slots := #[some b, some c, some a] }
inductive IsAtom : Value → Atom → Prop where
  | int (i : Int) (t : Tok) : IsAtom (.int i t) (.int i)
  | bool (b : Bool) : IsAtom (.bool b) (.bool b)
  | str (s : Str) (t : Tok) (ok : PyData.strOk s = true) : IsAtom (.str s t) (.str s ok)
  | none : IsAtom .none .none
inductive TreeP (G : Addr → Obj → Prop) : Value → Tree → Prop where
  | leaf {v : Value} {a : Atom} : IsAtom v a → TreeP G v (.leaf a)
  | node {x dx : Addr} {a b c : Value} {t1 t2 t3 : Tree} : G x (nodeObj dx a b c) → G dx (dictOf [] 0) → TreeP G a t1 → TreeP G b t2 → TreeP G c t3 → TreeP G (.ref x) (.node t1 t2 t3)
abbrev TreeH (h : Heap) := TreeP (fun a o => h.get? a = some o)
theorem TreeP.mono {G G' : Addr → Obj → Prop} {v : Value} {t : Tree} (h : TreeP G v t) (k : ∀ a o, G a o → G' a o) : TreeP G' v t := by
  induction h with
  | leaf e => exact .leaf e
  | node h1 h2 _ _ _ i1 i2 i3 => exact .node (k _ _ h1) (k _ _ h2) i1 i2 i3
theorem IsAtom.reads {v : Value} {a : Atom} (e : IsAtom v a) (h : Heap) : Reads h v a.D [] := by
  cases e
  · exact .int _ _
  · exact .bool _
  · exact .str _ _
  · exact .none
def Tree.size : Tree → Nat
  | .leaf _ => 0
  | .node x y z => x.size + y.size + z.size + 1
def Fly (base : Heap) (outer : List Env) (e : Addr) (h : Heap) : Prop := ∃ a0, Heap.FlyingW base outer e (.type "AttributeError") a0 h
abbrev ar (dp un : Nat) (gd : Option (List Code)) (outer : List Env) : Around := { handled := none, depth := dp, frames := some outer, guards := gd, units := un }
/-- what a comparison of two trees does -/
def Asks (w : World) (mean : ExcName → Option Value) (mg mb : Str → Option Value) (go : Value → Value → Sem Value) (neg : Bool) (t u : Tree) (k : Nat := 100) : Prop :=
  ∀ (dp un : Nat) (gd : Option (List Code)) (outer : List Env) (base : Heap) (s : Shared) (v v' : Value) (Q E : Value → Shared → Prop),
    (hd.heap_39 w.params).In s.heap → TopAt mean mg mb s.heap → dp + (t.size + u.size) + 10 < recursionLimit → un + 10 * (t.size + u.size) + k < cLine →
    Below (ar dp un gd outer) base outer s.heap → TreeH base v t → TreeH base v' u →
    (∀ b h' tk, cmpT t u = some b → (∀ a o, s.heap.get? a = some o → h'.get? a = some o) → Q (.bool (b ^^ neg)) { s with heap := h', toks := tk }) →
    (∀ e h' tk, cmpT t u = Option.none → Fly base outer e h' → s.heap.UpToSlots h' → E (.ref e) { s with heap := h', toks := tk }) →
    wpAny (model PySem.Challenge.rw_dn0319_05.row.toRowW.prog w) (ar dp un gd outer) (go v v') Q E s

theorem TreeP.handed {G : Addr → Obj → Prop} {v : Value} {t : Tree} (h : TreeP G v t) : handedIn v = true := by
  cases h with
  | leaf e => cases e <;> rfl
  | node => rfl
theorem node_inst {h : Heap} {x dx : Addr} {a b c : Value} (g1 : h.get? x = some (nodeObj dx a b c)) (g2 : h.get? dx = some (dictOf [] 0)) : InstAt h x (nodeObj dx a b c) 47 (some (dictOf [] 0)) := ⟨g1, rfl, rfl, g2⟩
section
variable {w : World} {A : Around} {E : Value → Shared → Prop} {s : Shared} {h₀ : Heap} {L x dx : Addr} {m : Str → Option Value} {a b c : Value} {expr : Bool} {Q : Value → Shared → Prop}
theorem get_utcoff (F : Fr h₀ L s.heap m) (X₀ : (hd.heap_39 w.params).In h₀) (g1 : s.heap.get? x = some (nodeObj dx a b c)) (g2 : s.heap.get? dx = some (dictOf [] 0)) (hh : handedIn a = true)
    (h : Q a { s with toks := s.toks + 1 }) : wpAny (model PySem.Challenge.rw_dn0319_05.row.toRowW.prog w) A (getAttr (.ref x) (Str.ofString "utcoff") expr) Q E s := by
  revert X₀; k_fill; intro X₀
  k_dflt (refine' get_slot F X₀ (node_inst g1 g2) ?k4 ?k5 ?k6 ?k7 ?k8 ?k9 ?k10 hh h; (case k4 => k_is); (case k5 => k_is); (case k6 => k_is); (case k7 => k_is); (case k8 => k_is); (case k9 => k_is); (case k10 => rfl))
theorem get_dstoff (F : Fr h₀ L s.heap m) (X₀ : (hd.heap_39 w.params).In h₀) (g1 : s.heap.get? x = some (nodeObj dx a b c)) (g2 : s.heap.get? dx = some (dictOf [] 0)) (hh : handedIn b = true)
    (h : Q b { s with toks := s.toks + 1 }) : wpAny (model PySem.Challenge.rw_dn0319_05.row.toRowW.prog w) A (getAttr (.ref x) (Str.ofString "dstoff") expr) Q E s := by
  revert X₀; k_fill; intro X₀
  k_dflt (refine' get_slot F X₀ (node_inst g1 g2) ?k4 ?k5 ?k6 ?k7 ?k8 ?k9 ?k10 hh h; (case k4 => k_is); (case k5 => k_is); (case k6 => k_is); (case k7 => k_is); (case k8 => k_is); (case k9 => k_is); (case k10 => rfl))
theorem get_tzname (F : Fr h₀ L s.heap m) (X₀ : (hd.heap_39 w.params).In h₀) (g1 : s.heap.get? x = some (nodeObj dx a b c)) (g2 : s.heap.get? dx = some (dictOf [] 0)) (hh : handedIn c = true)
    (h : Q c { s with toks := s.toks + 1 }) : wpAny (model PySem.Challenge.rw_dn0319_05.row.toRowW.prog w) A (getAttr (.ref x) (Str.ofString "tzname") expr) Q E s := by
  revert X₀; k_fill; intro X₀
  k_dflt (refine' get_slot F X₀ (node_inst g1 g2) ?k4 ?k5 ?k6 ?k7 ?k8 ?k9 ?k10 hh h; (case k4 => k_is); (case k5 => k_is); (case k6 => k_is); (case k7 => k_is); (case k8 => k_is); (case k9 => k_is); (case k10 => rfl))
end
/-- a part asked of a plain value -/
theorem get_miss {prog : Program} {w : World} {A : Around} {E : Value → Shared → Prop} {s : Shared} {v : Value} {a : Atom} {Q : Value → Shared → Prop} (e : IsAtom v a) (hA : A.handled = none)
    (h : ∀ h' tk e, Heap.NewExcOf s.heap h' e "AttributeError" → E (.ref e) { s with heap := h', toks := tk }) :
    wpAny (model prog w) A (getAttr v (Str.ofString "utcoff") true) Q E s := by
  cases e
  · exact getAttr_miss_int (by rw [typeLookup_type, builtinLookup_eq_fast]; kernel_rfl) hA h (by decide)
  · exact getAttr_miss_bool (by rw [typeLookup_type, builtinLookup_eq_fast]; kernel_rfl) hA h (by decide)
  · exact getAttr_miss_str (by rw [typeLookup_type, builtinLookup_eq_fast]; kernel_rfl) hA h (by decide)
  · exact getAttr_miss_none (by rw [typeLookup_type, builtinLookup_eq_fast]; kernel_rfl) hA h (by decide)
/-- a new AttributeError leaves its frame -/
theorem leave_first {M : Model} {A : Around} {E : Value → Shared → Prop} {s' : Shared} {base h₀ h : Heap} {outer : List Env} {L a e : Addr} {m : Str → Option Value} {name : Str} {scope : Scope} {cd : Value} {Q : Unit → Shared → Prop}
    (B : Below A base outer h₀) (F : Fr h₀ L h m) (hx : Heap.NewExcOf h s'.heap e "AttributeError")
    (hQ : ∀ h', Fly base outer e h' → h₀.UpToSlots h' → Q () { s' with heap := h' }) (hk : scope.kind = .function := by rfl) :
    wpAny M (A.deeper (envOf name scope L a cd)) (leaving (envOf name scope L a cd) (.ref e)) Q E s' := by
  have B' := B.push (name := name) (a := a) (cd := cd) F hk
  obtain ⟨ob, vs, he, hc, hd, h1⟩ := hx.there
  have hsz : 1 < vs.size := (Array.getElem?_eq_some_iff.mp h1).1
  have hst : base.StaysIn s'.heap := fun b o q => hx.keeps b o (B'.stays b o q)
  have hen : base.get? e = Option.none := by
    cases q : base.get? e with
    | none => rfl
    | some o => have := B'.stays _ _ q; rw [hx.new] at this; cases this
  refine wpAny_leaving_firstW (a0 := vs[0]) B'.stack (B'.frames.of_keeps fun b o q _ => ⟨o, hx.keeps b o q, rfl⟩) rfl he hst hen hd h1 (Array.getElem?_eq_getElem _) fun h' hL => ?_
  obtain ⟨k1, ⟨_, _, k2⟩, k3, k4⟩ := hL
  rw [hc] at k3
  exact hQ h' ⟨_, k1, hen, k2, k3⟩ (((Heap.UpToSlots.of_keeps F.keep).trans (Heap.UpToSlots.of_keeps hx.keeps)).trans k4)
/-- one that flies leaves the next frame -/
theorem leave_next {M : Model} {A : Around} {E : Value → Shared → Prop} {s' : Shared} {base h₀ h : Heap} {outer : List Env} {L a e : Addr} {m : Str → Option Value} {name : Str} {scope : Scope} {cd : Value} {Q : Unit → Shared → Prop}
    (B : Below A base outer h₀) (F : Fr h₀ L h m) (hx : Fly base (envOf name scope L a cd :: outer) e s'.heap) (hu : h.UpToSlots s'.heap)
    (hQ : ∀ h', Fly base outer e h' → h₀.UpToSlots h' → Q () { s' with heap := h' }) :
    wpAny M (A.deeper (envOf name scope L a cd)) (leaving (envOf name scope L a cd) (.ref e)) Q E s' := by
  obtain ⟨a0, hx⟩ := hx
  exact wpAny_leaves_onW (Around.frames_deeper B.stack) rfl hx fun h' x1 x2 => hQ h' ⟨a0, x1⟩ (((Heap.UpToSlots.of_keeps F.keep).trans hu).trans x2)
theorem reads_atom {h : Heap} {v : Value} {a : Atom} {as : List Addr} (r : Reads h v a.D as) : IsAtom v a := by
  cases a with
  | int i => simp only [Atom.D] at r; cases r; exact .int _ _
  | bool b => simp only [Atom.D] at r; cases r; exact .bool _
  | str s ok => simp only [Atom.D] at r; cases r; exact .str _ _ ok
  | none => simp only [Atom.D] at r; cases r; exact .none
theorem reads_cell {h : Heap} {v : Value} {a : Atom} {as : List Addr} (r : Reads h v (cellD (some a)) as) : ∃ lc u, v = .ref lc ∧ h.IsList lc [u].toArray ∧ IsAtom u a := by
  obtain ⟨lc, vs, bs, rfl, hl, hall⟩ := reads_list r
  cases hall with
  | cons r rs => cases rs; exact ⟨_, _, rfl, hl, reads_atom r⟩
theorem Paired.mono' {α β : Type} {P Q : α → β → Prop} {l : List α} {k : List β} (h : Paired P l k) (f : ∀ a b, P a b → Q a b) : Paired Q l k := by
  induction h with
  | nil => exact .nil
  | cons h _ ih => exact .cons (f _ _ h) ih
theorem Paired.len {α β : Type} {P : α → β → Prop} {l : List α} {k : List β} (h : Paired P l k) : l.length = k.length := by
  induction h with
  | nil => rfl
  | cons _ _ ih => simp [ih]
end Mine
end
section
namespace Mine
local macro_rules | `(tactic| walk_at "mine step") => `(tactic| first | (k_unfold; (try dsimp only)) | (k_end; wrow_close) | walk1 | (dsimp only; walk1) | (leave1; walk_say "STEP leave1"; try dsimp only) | fail "no step")
local macro_rules | `(tactic| walk_at "mine steps") => `(tactic| repeat' walk_at "mine step")
local macro_rules | `(tactic| walk_at "getAttr ref") => `(tactic| first
  | refine get_utcoff (by k_asm) (by k_asm) (Fr.keep (by k_asm) _ _ (by assumption)) (Fr.keep (by k_asm) _ _ (by assumption)) (by assumption) ?_
  | refine get_dstoff (by k_asm) (by k_asm) (Fr.keep (by k_asm) _ _ (by assumption)) (Fr.keep (by k_asm) _ _ (by assumption)) (by assumption) ?_
  | refine get_tzname (by k_asm) (by k_asm) (Fr.keep (by k_asm) _ _ (by assumption)) (Fr.keep (by k_asm) _ _ (by assumption)) (by assumption) ?_)
theorem node_leaf {w : World} {mean : ExcName → Option Value} {mg mb : Str → Option Value} (x y z : Tree) (a : Atom) :
    Asks w mean mg mb (fun v v' => call (.ref 36) [v, v']) false (.node x y z) (.leaf a) := by
  intro dp un gd outer base s v v' Q E X T hd hu B hv hv' hQ hE
  revert X; k_fill; intro X
  refine wpAny_call ?_
  k_dflt (refine' enter0 X T.nolimit ?k6 ?k7 ?k8 ?k9 ?kB ?_ ?c2 ?c3 ?c4 ?c5; (case k6 => k_is); (case k7 => k_is); (case k8 => (dsimp only; omega)); (case k9 => exact BindsTo.of_eq rfl); (case c5 => decide); (case kB => exact locs rfl); (case c2 => exact rfl); (case c3 => exact rfl); (case c4 => exact rfl); k_whole; intro h' L' F' N')
  k_fold
  cases hv with | node g1 g2 p1 p2 p3 =>
  cases hv' with | leaf hat =>
  have q1 := p1.handed
  have g1' := B.stays _ _ g1
  have g2' := B.stays _ _ g2
  walk_at "mine steps"
  refine get_miss hat rfl fun h2 tk2 e2 hx => ?_
  rename Fr _ _ _ _ => F2
  refine leave_first B F2 hx (fun h3 f3 u3 => ?_) rfl
  exact hE _ _ _ rfl f3 u3
theorem node_node {w : World} {mean : ExcName → Option Value} {mg mb : Str → Option Value} (x y z x' y' z' : Tree)
   (h1 : Asks w mean mg mb (compareOp .Eq) false x x') (h2 : Asks w mean mg mb (compareOp .Eq) false y y') (h3 : Asks w mean mg mb (compareOp .Eq) false z z') :
    Asks w mean mg mb (fun v v' => call (.ref 36) [v, v']) false (.node x y z) (.node x' y' z') := by
  intro dp un gd outer base s v v' Q E X T hd hu B hv hv' hQ hE
  revert X; k_fill; intro X
  refine wpAny_call ?_
  k_dflt (refine' enter0 X T.nolimit ?k6 ?k7 ?k8 ?k9 ?kB ?_ ?c2 ?c3 ?c4 ?c5; (case k6 => k_is); (case k7 => k_is); (case k8 => (dsimp only; omega)); (case k9 => exact BindsTo.of_eq rfl); (case c5 => decide); (case kB => exact locs rfl); (case c2 => exact rfl); (case c3 => exact rfl); (case c4 => exact rfl); k_whole; intro h' L' F' N')
  k_fold
  cases hv with | node g1 g2 p1 p2 p3 =>
  cases hv' with | node g1x g2x p1x p2x p3x =>
  have q1 := p1.handed
  have g1' := B.stays _ _ g1
  have g2' := B.stays _ _ g2
  have q1x := p1x.handed
  have g1x' := B.stays _ _ g1x
  have g2x' := B.stays _ _ g2x
  have q2 := p2.handed
  have q3 := p3.handed
  have q2x := p2x.handed
  have q3x := p3x.handed
  simp only [Tree.size] at hd hu
  walk_at "mine steps"
  rename Fr _ _ _ _ => F2
  k_dflt (refine h1 (dp + 1) (un + 3) gd (_ :: outer) base _ _ _ _ _ (X.keeps F2.keep) (T.keeps F2.keep) (by omega) (by omega) (B.push F2) p1 p1x ?_ ?_)
  rotate_left
  · intro e1 h4 tk4 hb f4 u4
    exact leave_next B F2 f4 u4 fun h5 f5 u5 => hE _ _ _ (by simp [cmpT, hb]) f5 u5
  intro b1 h4 tk4 hb1 hk4
  replace F2 := F2.keeps hk4
  rename News _ _ _ _ => N2
  replace N2 := N2.grown hk4
  cases b1 with
  | false =>
    walk_at "mine steps"
    rename Fr _ _ _ _ => F3
    exact hQ _ _ _ (by simp [cmpT, hb1]) F3.keep
  | true =>
    walk_at "mine steps"
    rename Fr _ _ _ _ => F3
    k_dflt (refine h2 (dp + 1) (un + 3) gd (_ :: outer) base _ _ _ _ _ (X.keeps F3.keep) (T.keeps F3.keep) (by omega) (by omega) (B.push F3) p2 p2x ?_ ?_)
    rotate_left
    · intro e1 h4 tk4 hb f4 u4
      exact leave_next B F3 f4 u4 fun h5 f5 u5 => hE _ _ _ (by simp [cmpT, hb1, hb]) f5 u5
    intro b2 h5 tk5 hb2 hk5
    replace F3 := F3.keeps hk5
    rename News _ _ _ _ => N3
    replace N3 := N3.grown hk5
    cases b2 with
    | false =>
      walk_at "mine steps"
      rename Fr _ _ _ _ => F4
      exact hQ _ _ _ (by simp [cmpT, hb1, hb2]) F4.keep
    | true =>
      walk_at "mine steps"
      rename Fr _ _ _ _ => F4
      k_dflt (refine h3 (dp + 1) (un + 3) gd (_ :: outer) base _ _ _ _ _ (X.keeps F4.keep) (T.keeps F4.keep) (by omega) (by omega) (B.push F4) p3 p3x ?_ ?_)
      rotate_left
      · intro e1 h4 tk4 hb f4 u4
        exact leave_next B F4 f4 u4 fun h5 f5 u5 => hE _ _ _ (by simp [cmpT, hb1, hb2, hb]) f5 u5
      intro b3 h6 tk6 hb3 hk6
      replace F4 := F4.keeps hk6
      rename News _ _ _ _ => N4
      replace N4 := N4.grown hk6
      walk_at "mine steps"
      exact hQ _ _ _ (by simp [cmpT, hb1, hb2, hb3]) F4.keep
end Mine
end
section
namespace Mine
section
variable {prog : Program} {w : World} {A : Around} {E : Value → Shared → Prop} {s : Shared} {x dx : Addr} {a b c : Value}
theorem decl_int_eq {i : Int} {t : Tok} {Q : Value → Shared → Prop} (hx : s.heap.get? x = some (nodeObj dx a b c)) (h : Q .notImplemented s) :
    wpAny (model prog w) A (call (.builtin "int.__eq__") [.int i t, .ref x]) Q E s := by
  refine wpAny_call_entry F.slot_int_eq (typeIs_int _ _ _) F.entry_int_eq ?_ (F.args_int_eq_2 _ _)
  obtain ⟨hp, g, d, tk, os⟩ := s
  repeat (any_goals (first | assumption | wp_step))
  all_goals exact ⟨_, rfl, h⟩
theorem decl_str_eq {i : Str} {t : Tok} {Q : Value → Shared → Prop} (hx : s.heap.get? x = some (nodeObj dx a b c)) (h : Q .notImplemented s) :
    wpAny (model prog w) A (call (.builtin "str.__eq__") [.str i t, .ref x]) Q E s := by
  refine wpAny_call_entry F.slot_str_eq (typeIs_str _ _ _) F.entry_str_eq ?_ (F.args_str_eq_2 _ _)
  obtain ⟨hp, g, d, tk, os⟩ := s
  repeat (any_goals (first | assumption | wp_step))
  all_goals exact ⟨_, rfl, h⟩
theorem decl_bool_eq {i : Bool} {Q : Value → Shared → Prop} (hx : s.heap.get? x = some (nodeObj dx a b c)) (h : Q .notImplemented s) :
    wpAny (model prog w) A (call (.builtin "int.__eq__") [.bool i, .ref x]) Q E s := by
  refine wpAny_call_entry F.slot_bool_eq rfl F.entry_int_eq ?_ (F.args_int_eq_2 _ _)
  obtain ⟨hp, g, d, tk, os⟩ := s
  repeat (any_goals (first | assumption | wp_step))
  all_goals exact ⟨_, rfl, h⟩
theorem decl_none_eq {Q : Value → Shared → Prop} (hx : s.heap.get? x = some (nodeObj dx a b c)) (h : Q .notImplemented s) :
    wpAny (model prog w) A (call (.builtin "NoneType.__eq__") [.none, .ref x]) Q E s := by
  refine wpAny_call_entry F.slot_NoneType_eq rfl F.entry_NoneType_eq ?_ (F.args_NoneType_eq_2 _ _)
  obtain ⟨hp, g, d, tk, os⟩ := s
  repeat (any_goals (first | assumption | wp_step))
  all_goals exact ⟨_, rfl, h⟩
theorem decl_int_ne {i : Int} {t : Tok} {Q : Value → Shared → Prop} (hx : s.heap.get? x = some (nodeObj dx a b c)) (h : Q .notImplemented s) :
    wpAny (model prog w) A (call (.builtin "int.__ne__") [.int i t, .ref x]) Q E s := by
  refine wpAny_call_entry F.slot_int_ne (typeIs_int _ _ _) F.entry_int_ne ?_ (F.args_int_ne_2 _ _)
  obtain ⟨hp, g, d, tk, os⟩ := s
  repeat (any_goals (first | assumption | wp_step))
  all_goals exact ⟨_, rfl, h⟩
theorem decl_str_ne {i : Str} {t : Tok} {Q : Value → Shared → Prop} (hx : s.heap.get? x = some (nodeObj dx a b c)) (h : Q .notImplemented s) :
    wpAny (model prog w) A (call (.builtin "str.__ne__") [.str i t, .ref x]) Q E s := by
  refine wpAny_call_entry F.slot_str_ne (typeIs_str _ _ _) F.entry_str_ne ?_ (F.args_str_ne_2 _ _)
  obtain ⟨hp, g, d, tk, os⟩ := s
  repeat (any_goals (first | assumption | wp_step))
  all_goals exact ⟨_, rfl, h⟩
theorem decl_bool_ne {i : Bool} {Q : Value → Shared → Prop} (hx : s.heap.get? x = some (nodeObj dx a b c)) (h : Q .notImplemented s) :
    wpAny (model prog w) A (call (.builtin "int.__ne__") [.bool i, .ref x]) Q E s := by
  refine wpAny_call_entry F.slot_bool_ne rfl F.entry_int_ne ?_ (F.args_int_ne_2 _ _)
  obtain ⟨hp, g, d, tk, os⟩ := s
  repeat (any_goals (first | assumption | wp_step))
  all_goals exact ⟨_, rfl, h⟩
theorem decl_none_ne {Q : Value → Shared → Prop} (hu : A.units + 1 < cLine) (hx : s.heap.get? x = some (nodeObj dx a b c)) (h : Q .notImplemented s) :
    wpAny (model prog w) A (call (.builtin "NoneType.__ne__") [.none, .ref x]) Q E s := by
  refine wpAny_call_entry F.slot_NoneType_ne rfl F.entry_NoneType_ne ?_ (F.args_NoneType_ne_2 _ _)
  obtain ⟨hp, g, d, tk, os⟩ := s
  repeat (any_goals (first | assumption | with_reducible refine wpAny_cRoomFor hu ?_ | wp_step))
  all_goals exact ⟨_, rfl, h⟩
theorem try_leaf_eq {v : Value} {l : Atom} {Q : Option Value → Shared → Prop} (e : IsAtom v l) (hx : s.heap.get? x = some (nodeObj dx a b c)) (h : Q Option.none s) :
    wpAny (model prog w) A (tryCompare v (cmpInfo .Eq).2.1 (.ref x)) Q E s := by
  cases e with
  | int i t => exact wpAny_tryCompare_declines (typeIs_int _ _ _) F.slot_int_eq (decl_int_eq hx ⟨rfl, h⟩)
  | bool b => exact wpAny_tryCompare_declines (T := "bool") rfl F.slot_bool_eq (decl_bool_eq hx ⟨rfl, h⟩)
  | str i t ok => exact wpAny_tryCompare_declines (typeIs_str _ _ _) F.slot_str_eq (decl_str_eq hx ⟨rfl, h⟩)
  | none => exact wpAny_tryCompare_declines (T := "NoneType") rfl F.slot_NoneType_eq (decl_none_eq hx ⟨rfl, h⟩)
theorem try_leaf_ne {v : Value} {l : Atom} {Q : Option Value → Shared → Prop} (hu : A.units + 1 < cLine) (e : IsAtom v l) (hx : s.heap.get? x = some (nodeObj dx a b c)) (h : Q Option.none s) :
    wpAny (model prog w) A (tryCompare v (cmpInfo .NotEq).2.1 (.ref x)) Q E s := by
  cases e with
  | int i t => exact wpAny_tryCompare_declines (typeIs_int _ _ _) F.slot_int_ne (decl_int_ne hx ⟨rfl, h⟩)
  | bool b => exact wpAny_tryCompare_declines (T := "bool") rfl F.slot_bool_ne (decl_bool_ne hx ⟨rfl, h⟩)
  | str i t ok => exact wpAny_tryCompare_declines (typeIs_str _ _ _) F.slot_str_ne (decl_str_ne hx ⟨rfl, h⟩)
  | none => exact wpAny_tryCompare_declines (T := "NoneType") rfl F.slot_NoneType_ne (decl_none_ne hu hx ⟨rfl, h⟩)
theorem one_leaf {v : Value} {l : Atom} (op : CmpOp) (e : IsAtom v l) : oneThing? op v (.ref x) = Option.none := by
  cases e <;> cases op <;> rfl
def leafType : Atom → String
  | .int _ => "int"
  | .bool _ => "bool"
  | .str _ _ => "str"
  | .none => "NoneType"
theorem type_leaf {v : Value} {l : Atom} (e : IsAtom v l) : typeOf v = pure (.type (leafType l)) := by cases e <;> rfl
end
section
variable {w : World} {A : Around} {E : Value → Shared → Prop} {s : Shared} {x dx : Addr} {a b c : Value}
/-- a plain value on the left, an object on the right: the right one is asked -/
theorem rich_leaf {v : Value} {l : Atom} {op : CmpOp} {Q : Value → Shared → Prop} (X : (hd.heap_39 w.params).In s.heap) (hu : A.units + 1 < cLine) (e : IsAtom v l) (hx : s.heap.get? x = some (nodeObj dx a b c)) (hop : op = .Eq ∨ op = .NotEq)
    (h : wpAny (model PySem.Challenge.rw_dn0319_05.row.toRowW.prog w) A (tryCompare (.ref x) (cmpInfo op).2.1 v) (fun r s' => ∃ q, r = some q ∧ Q q s') E s) :
    wpAny (model PySem.Challenge.rw_dn0319_05.row.toRowW.prog w) A (richCompare op v (.ref x)) Q E s := by
  have hsub : Looks (model PySem.Challenge.rw_dn0319_05.row.toRowW.prog w) s.heap (isSubtype (.ref 47) (.type (leafType l))) false := by
    revert X; k_fill; intro X
    cases l
    · show Looks _ _ (isSubtype (.ref 47) (.type "int")) false
      exact looks_subIn X (by k_is)
    · show Looks _ _ (isSubtype (.ref 47) (.type "bool")) false
      exact looks_subIn X (by k_is)
    · show Looks _ _ (isSubtype (.ref 47) (.type "str")) false
      exact looks_subIn X (by k_is)
    · show Looks _ _ (isSubtype (.ref 47) (.type "NoneType")) false
      exact looks_subIn X (by k_is)
  have htry : ∀ {Q' : Option Value → Shared → Prop}, Q' Option.none s → wpAny (model PySem.Challenge.rw_dn0319_05.row.toRowW.prog w) A (tryCompare v (cmpInfo op).2.1 (.ref x)) Q' E s := by
    intro Q' hq
    rcases hop with rfl | rfl
    · exact try_leaf_eq e hx hq
    · exact try_leaf_ne hu e hx hq
  have hri : (cmpInfo op).2.2 = (cmpInfo op).2.1 := by rcases hop with rfl | rfl <;> rfl
  unfold richCompare
  simp only [one_leaf op e]
  refine wpAny_holding (wpAny_bind (wpAny_cRoomFor (by omega) ?_))
  refine wpAny_bind (wpAny_of_eq (type_leaf e) (wpAny_bind (wpAny_typeOf_ref hx ?_)))
  rw [if_pos (by rfl)]
  refine wpAny_bind (hsub.here ?_)
  simp only [Bool.false_eq_true, if_false]
  refine wpAny_bind (htry ?_)
  simp only [Bool.not_false, if_true, hri]
  refine wpAny_bind (wpAny_mono h (fun r s' hr => ?_) fun _ _ e => e)
  obtain ⟨q, rfl, hq⟩ := hr
  exact wpAny_pure hq
/-- an object on the left: it is asked -/
theorem rich_node {v : Value} {t : Tree} {op : CmpOp} {Q : Value → Shared → Prop} (X : (hd.heap_39 w.params).In s.heap) (hu : A.units + 1 < cLine) (e : TreeH s.heap v t) (hx : s.heap.get? x = some (nodeObj dx a b c))
    (h : wpAny (model PySem.Challenge.rw_dn0319_05.row.toRowW.prog w) A (tryCompare (.ref x) (cmpInfo op).2.1 v) (fun r s' => ∃ q, r = some q ∧ Q q s') E s) :
    wpAny (model PySem.Challenge.rw_dn0319_05.row.toRowW.prog w) A (richCompare op (.ref x) v) Q E s := by
  unfold richCompare
  simp only [oneThing_ref]
  refine wpAny_holding (wpAny_bind (wpAny_cRoomFor (by omega) ?_))
  refine wpAny_bind (wpAny_typeOf_ref hx ?_)
  cases e with
  | leaf e =>
    refine wpAny_bind (wpAny_of_eq (type_leaf e) ?_)
    rw [if_pos (by rfl)]
    rename_i l
    have hsub : Looks (model PySem.Challenge.rw_dn0319_05.row.toRowW.prog w) s.heap (isSubtype (.type (leafType l)) (.ref 47)) false := by
      revert X; k_fill; intro X
      cases l
      · show Looks _ _ (isSubtype (.type "int") (.ref 47)) false
        exact looks_subIn X (by k_is)
      · show Looks _ _ (isSubtype (.type "bool") (.ref 47)) false
        exact looks_subIn X (by k_is)
      · show Looks _ _ (isSubtype (.type "str") (.ref 47)) false
        exact looks_subIn X (by k_is)
      · show Looks _ _ (isSubtype (.type "NoneType") (.ref 47)) false
        exact looks_subIn X (by k_is)
    refine wpAny_bind (hsub.here ?_)
    simp only [Bool.false_eq_true, if_false]
    refine wpAny_bind (wpAny_mono h (fun r s' hr => ?_) fun _ _ e => e)
    obtain ⟨q, rfl, hq⟩ := hr
    exact wpAny_pure hq
  | node g1 g2 _ _ _ =>
    refine wpAny_bind (wpAny_typeOf_ref g1 ?_)
    rw [if_neg (by simp)]
    refine wpAny_bind (wpAny_pure ?_)
    simp only [Bool.false_eq_true, if_false]
    refine wpAny_bind (wpAny_mono h (fun r s' hr => ?_) fun _ _ e => e)
    obtain ⟨q, rfl, hq⟩ := hr
    exact wpAny_pure hq
/-- its own __eq__ -/
theorem try_eq {v : Value} {Q : Option Value → Shared → Prop} (X : (hd.heap_39 w.params).In s.heap) (g1 : s.heap.get? x = some (nodeObj dx a b c)) (g2 : s.heap.get? dx = some (dictOf [] 0))
    (h : wpAny (model PySem.Challenge.rw_dn0319_05.row.toRowW.prog w) A (call (.ref 36) [.ref x, v]) (fun r s' => ∃ q, r = .bool q ∧ Q (some (.bool q)) s') E s) :
    wpAny (model PySem.Challenge.rw_dn0319_05.row.toRowW.prog w) A (tryCompare (.ref x) (cmpInfo .Eq).2.1 v) Q E s := by
  revert X; k_fill; intro X
  unfold tryCompare
  refine wpAny_bind (ifBound_K (f := 36) X (node_inst g1 g2) (by k_is) (by k_is) (wpAny_mono h (fun r s' hr => ?_) fun _ _ e => e))
  obtain ⟨q, rfl, hq⟩ := hr
  exact wpAny_pure hq
/-- != by its own __eq__ -/
theorem try_ne {v : Value} {Q : Option Value → Shared → Prop} (X : (hd.heap_39 w.params).In s.heap) (hu : A.units + 2 < cLine) (g1 : s.heap.get? x = some (nodeObj dx a b c)) (g2 : s.heap.get? dx = some (dictOf [] 0))
    (h : wpAny (model PySem.Challenge.rw_dn0319_05.row.toRowW.prog w) A.in1 (call (.ref 36) [.ref x, v]) (fun r s' => ∃ q, r = .bool q ∧ Q (some (.bool (!q))) s') E s) :
    wpAny (model PySem.Challenge.rw_dn0319_05.row.toRowW.prog w) A (tryCompare (.ref x) (cmpInfo .NotEq).2.1 v) Q E s := by
  revert X; k_fill; intro X
  unfold tryCompare
  have hfind : Looks (model PySem.Challenge.rw_dn0319_05.row.toRowW.prog w) s.heap (typeLookup (.ref 47) (cmpInfo .NotEq).2.1) (some (.builtin "object.__ne__")) := looks_findIn X (by k_is)
  obtain ⟨hp, g, d, tk, os⟩ := s
  have hC : hp.get? 47 = some (excClassObj (Str.ofString "_ttinfo") (Str.ofString "_ttinfo") 47 46 [Value.type "object"] [Value.type "object"] false [Str.ofString "dstoff", Str.ofString "tzname", Str.ofString "utcoff"] [] false Option.none Option.none Option.none Option.none _ _ _ "object.__new__") := X 47 _ (by k_is)
  have body : wpAny (model PySem.Challenge.rw_dn0319_05.row.toRowW.prog w) A (call (.builtin "object.__ne__") [.ref x, v]) (fun r s' => ∃ q, r = .bool q ∧ Q (some (.bool q)) s') E ⟨hp, g, d, tk, os⟩ := by
    refine wpAny_call (codeAny_call_builtin F.cmp_object.ne.plain F.cmpEntry_ne (wpAny_check_slot_inst F.cmpKind_ne F.cmpSplit_ne (F.cmpArgs_ne _ _) F.cmp_object.hasObject g1 rfl hC ?_))
    unfold Builtin.«object.__ne__»
    repeat (first
      | with_reducible refine wpAny_cRoomFor (by show A.units + 1 < cLine; omega) ?_
      | (refine wpAny_bind (m := callSpecialIfBound? (.ref x) (Str.ofString "__eq__") [v]) (ifBound_K (f := 36) X (node_inst g1 g2) (by k_is) (by k_is) (wpAny_mono h (fun r s' hr => ?_) fun _ _ e => e)))
      | wp_step)
    obtain ⟨q, rfl, hq⟩ := hr
    exact wpAny_bind (wpAny_truthy_bool (wpAny_pure ⟨_, rfl, hq⟩))
  simp only [callSpecialIfBound?, bindSpecialIfBound?]
  refine wpAny_bind (wpAny_holding (wpAny_bind (wpAny_bind (wpAny_bind ((node_inst g1 g2).type.here (hfind.here ?_))))))
  have fin : wpAny (model PySem.Challenge.rw_dn0319_05.row.toRowW.prog w) A (call (.builtin "object.__ne__") ([.ref x] ++ [v]) >>= fun v => pure (some v)) (fun r s' => wpAny (model PySem.Challenge.rw_dn0319_05.row.toRowW.prog w) A (match r with
      | some .notImplemented => pure Option.none
      | Option.none => pure Option.none
      | some v => pure (some v)) Q E s') E ⟨hp, g, d, tk, os⟩ :=
    wpAny_bind (wpAny_mono body (fun r s' hr => by obtain ⟨q, rfl, hq⟩ := hr; exact wpAny_pure (wpAny_pure hq)) fun _ _ e => e)
  refine wpAny_bind (wpAny_askSetting (wpAny_ite ?_))
  split
  · exact wpAny_bind (wpAny_of_eq (F.cmp_object.ne.bind _) (wpAny_pure (by exact fin)))
  · exact wpAny_tryCatch (wpAny_bind (wpAny_of_eq (F.cmp_object.ne.bind _) (wpAny_pure (by exact fin))))
end
end Mine
end
section
namespace Mine
section
variable {w : World} {mean : ExcName → Option Value} {mg mb : Str → Option Value}
theorem eq_of_call {x y z u : Tree} (h : Asks w mean mg mb (fun v v' => call (.ref 36) [v, v']) false (.node x y z) u) : Asks w mean mg mb (compareOp .Eq) false (.node x y z) u := by
  intro dp un gd outer base s v v' Q E X T hd hu B hv hv' hQ hE
  have hvs := hv.mono B.stays
  have hvs' := hv'.mono B.stays
  cases hvs with | node g1 g2 _ _ _ =>
  refine cmp_ofEq (rich_node X (by show un + 1 < cLine; omega) hvs' g1 (try_eq X g1 g2 ?_))
  exact h dp un gd outer base s _ _ _ _ X T hd hu B hv hv' (fun b h' tk hb hk => ⟨_, rfl, _, rfl, hQ b h' tk hb hk⟩) hE
theorem eq_leaf_node {a : Atom} {x y z : Tree} : Asks w mean mg mb (compareOp .Eq) false (.leaf a) (.node x y z) := by
  intro dp un gd outer base s v v' Q E X T hd hu B hv hv' hQ hE
  have hvs' := hv'.mono B.stays
  cases hvs' with | node g1 g2 _ _ _ =>
  cases hv with | leaf e =>
  refine cmp_ofEq (rich_leaf X (by show un + 1 < cLine; omega) e g1 (.inl rfl) (try_eq X g1 g2 ?_))
  refine node_leaf x y z a dp un gd outer base s _ _ _ _ X T (by simp only [Tree.size] at hd ⊢; omega) (by simp only [Tree.size] at hu ⊢; omega) B hv' (.leaf e) (fun b h' tk hb hk => ?_) (fun e h' tk _ f u => hE e h' tk rfl f u)
  simp [cmpT] at hb
theorem eq_leaf_leaf {a b : Atom} : Asks w mean mg mb (compareOp .Eq) false (.leaf a) (.leaf b) := by
  intro dp un gd outer base s v v' Q E X T hd hu B hv hv' hQ hE
  cases hv with | leaf e =>
  cases hv' with | leaf e' =>
  refine eq_dataH (e.reads _) (e'.reads _) a.sh b.sh (by show un + 64 < cLine; omega) ?_
  have := hQ _ s.heap s.toks rfl (fun _ _ e => e)
  simpa [atomEq] using this
theorem eq_tree : ∀ t u : Tree, Asks w mean mg mb (compareOp .Eq) false t u := by
  intro t
  induction t with
  | leaf a =>
    intro u
    cases u with
    | leaf b => exact eq_leaf_leaf
    | node => exact eq_leaf_node
  | node x y z ix iy iz =>
    intro u
    cases u with
    | leaf b => exact eq_of_call (node_leaf x y z b)
    | node x' y' z' => exact eq_of_call (node_node x y z x' y' z' (ix x') (iy y') (iz z'))
theorem call_tree (x y z : Tree) : ∀ u : Tree, Asks w mean mg mb (fun v v' => call (.ref 36) [v, v']) false (.node x y z) u := by
  intro u
  cases u with
  | leaf b => exact node_leaf x y z b
  | node x' y' z' => exact node_node x y z x' y' z' (eq_tree x x') (eq_tree y y') (eq_tree z z')
theorem ne_node (x y z u : Tree) : Asks w mean mg mb (compareOp .NotEq) true (.node x y z) u 101 := by
  intro dp un gd outer base s v v' Q E X T hd hu B hv hv' hQ hE
  have hvs := hv.mono B.stays
  have hvs' := hv'.mono B.stays
  cases hvs with | node g1 g2 _ _ _ =>
  refine cmp_ofNotEq (rich_node X (by show un + 1 < cLine; omega) hvs' g1 (try_ne X (by show un + 2 < cLine; omega) g1 g2 ?_))
  refine call_tree x y z u dp (un + 1) gd outer base s _ _ _ _ X T hd (by omega) ⟨rfl, B.stays, B.frames⟩ hv hv' (fun b h' tk hb hk => ⟨_, rfl, _, rfl, ?_⟩) hE
  have := hQ b h' tk hb hk
  simpa using this
theorem ne_leaf (a : Atom) (x y z : Tree) : Asks w mean mg mb (compareOp .NotEq) true (.leaf a) (.node x y z) 101 := by
  intro dp un gd outer base s v v' Q E X T hd hu B hv hv' hQ hE
  have hvs' := hv'.mono B.stays
  cases hvs' with | node g1 g2 _ _ _ =>
  cases hv with | leaf e =>
  refine cmp_ofNotEq (rich_leaf X (by show un + 1 < cLine; omega) e g1 (.inr rfl) (try_ne X (by show un + 2 < cLine; omega) g1 g2 ?_))
  refine node_leaf x y z a dp (un + 1) gd outer base s _ _ _ _ X T (by simp only [Tree.size] at hd ⊢; omega) (by simp only [Tree.size] at hu ⊢; omega) ⟨rfl, B.stays, B.frames⟩ hv' (.leaf e) (fun b h' tk hb hk => ?_) (fun e h' tk _ f u => hE e h' tk rfl f u)
  simp [cmpT] at hb
end
end Mine
end
section
namespace Mine
local macro_rules | `(tactic| walk_at "mine step") => `(tactic| first | (k_unfold; (try dsimp only)) | (k_end; wrow_close) | walk1 | (dsimp only; walk1) | (leave1; walk_say "STEP leave1"; try dsimp only) | fail "no step")
local macro_rules | `(tactic| walk_at "mine steps") => `(tactic| repeat' walk_at "mine step")
local macro_rules | `(tactic| walk_at "mine to for") => `(tactic| repeat' ((fail_if_success (with_reducible show wpAny _ _ (PySem.exec (PySem.Stmt.For _ _ _ _ _) _) _ _ _)); walk_at "mine step"))
local macro_rules | `(tactic| walk_at "mine to iter") => `(tactic| repeat' ((fail_if_success (with_reducible show wpAny _ _ (PySem.pyIter _) _ _ _)); walk_at "mine step"))
local macro_rules | `(tactic| k_all) => `(tactic| assumption)
local macro_rules | `(tactic| walk_at "mine size") => `(tactic| (refine Nat.le_trans (m := 1000) ?_ (by decide); simp only [List.size_toArray, List.length_append, List.length_reverse, List.length_cons, List.length_nil]; (try simp only [List.length_cons] at *); omega))
local macro_rules | `(tactic| walk_at "call builtin:list.pop") => `(tactic| (k_here; (with_reducible show wpAny _ _ (call (Value.builtin _) [Value.ref _]) _ _ _); k_dflt (refine' kl_pop ?F ?N (kpa_last _ _) ?U ?z ?_; (case F => k_asm); (case N => k_asm); (case U => k_upd); (case z => walk_at "mine size")); intro h' F' N'; (try k_sweep)))
local macro_rules | `(tactic| walk_at "call builtin:list.append") => `(tactic| (k_here; (with_reducible show wpAny _ _ (call (Value.builtin _) [Value.ref _, _]) _ _ _); k_dflt (refine' append_K ?k1 ?k2 ?k3 ?_ ?z; (case k1 => k_asm); (case k2 => k_asm); (case k3 => k_upd); (case z => walk_at "mine size"); k_whole); intro h' F' N'; (try k_sweep)))
theorem made_call {w : World} {dp un : Nat} {outer : List Env} {base : Heap} {gd : Option (List Code)} {s : Shared} {mean : ExcName → Option Value} {mg mb : Str → Option Value}
    {R : Result → Shared → Prop} {v : Value} {t : Tree} {as : List Addr}
    (X : (hd.heap_39 w.params).In s.heap) (T : TopAt mean mg mb s.heap) (hd : dp + 10 < recursionLimit) (hu : un + 100 < cLine) (B : Below (ar dp un gd outer) base outer s.heap)
    (hr : Reads s.heap v (rowD (flat t)) as) (hlen : (flat t).length < 1000)
    (hR : ∀ r h' tk, (∀ b o, s.heap.get? b = some o → h'.get? b = some o) → TreeP (fun a o => h'.get? a = some o ∧ s.heap.get? a = Option.none) r t → R (.ok (.ret r)) { s with heap := h', toks := tk }) :
    codeAny (model PySem.Challenge.rw_dn0319_05.row.toRowW.prog w) (ar dp un gd outer) (.call (.ref 59) ⟨[v], []⟩) R s := by
  obtain ⟨l, vs, bs, rfl, hl, hall⟩ := reads_list hr
  revert X; k_fill; intro X
  k_dflt (refine' enter0 X T.nolimit ?k6 ?k7 ?k8 ?k9 ?kB ?_ ?c2 ?c3 ?c4 ?c5; (case k6 => k_is); (case k7 => k_is); (case k8 => (dsimp only; omega)); (case k9 => exact BindsTo.of_eq rfl); (case c5 => decide); (case kB => exact locs rfl); (case c2 => exact rfl); (case c3 => exact rfl); (case c4 => exact rfl); k_whole; intro h' L' F' N')
  refine wpAny_noRaise ?_
  k_fold
  walk_at "mine to for"
  rename Fr _ _ _ _ => F
  k_dflt (refine For_invVF F rfl rfl ?_ (fun _ => rfl) PassesOwn.never)
  walk_at "mine to iter"
  rename Fr _ _ _ _ => F1
  rename News _ _ _ _ => N1
  rename (_ : Nat) < _ => hlt
  have hn : vs.length = (flat t).length := by simpa using readsAll_len hall
  k_dflt (refine loop_rev rfl hl F1 N1 ?_ (fun i m nw => ∃ (aT : Addr) (us : List Value) (k : Nat) (old : List (Addr × Obj)), m (Str.ofString "things") = some (.ref aT) ∧ nw = (aT, W.listOf us.reverse.toArray k) :: old ∧ (∀ p ∈ old, p.1 ≠ aT) ∧
      Paired (TreeP (fun a o => (a, o) ∈ old)) us (stk ((flat t).drop ((flat t).length - i)))) ⟨_, [], 0, [], rfl, rfl, by simp, by simpa [stk] using Paired.nil⟩ ?_ ?_)
  · intro p hp; rw [List.mem_singleton.mp hp]; exact Nat.ne_of_lt hlt
  · rintro i v m1 nw it h2 tk2 hi hv ⟨aT, us, k, old, e1, rfl, hold, hp⟩ hoff F2 N2
    replace F2 := fr_known [(Str.ofString "one", _), (Str.ofString "things", _)] F2 (by simp only [List.forall_mem_cons]; exact ⟨rfl, e1, List.forall_mem_nil _⟩)
    simp only [known] at F2
    have hTI := hoff _ (List.mem_cons_self ..)
    dsimp only at hTI
    replace hTI := neN hTI
    clear N1 F1
    walk_at "mine steps"
    have hi' : (flat t).length - 1 - i < (flat t).length := by omega
    obtain ⟨c, hc⟩ : ∃ c, (flat t)[(flat t).length - 1 - i]? = some c := ⟨_, List.getElem?_eq_getElem hi'⟩
    have hsuf : (flat t).drop ((flat t).length - (i + 1)) = c :: (flat t).drop ((flat t).length - i) := by
      have e : (flat t).length - (i + 1) = (flat t).length - 1 - i := by omega
      have e' : (flat t).length - i = (flat t).length - 1 - i + 1 := by omega
      rw [e, e']
      rw [List.drop_eq_getElem_cons hi']
      congr 1
      rw [List.getElem?_eq_getElem hi'] at hc
      exact Option.some.inj hc
    obtain ⟨v', as', hv1, hv2⟩ := readsAll_get hall ((flat t).length - 1 - i) (cellD c) (by simp [hc])
    obtain rfl : v = v' := by rw [hn, hv1] at hv; exact (Option.some.inj hv).symm
    have hus : us.length < 1000 := by
      rw [Paired.len hp]
      have h1 := stk_len ((flat t).drop ((flat t).length - i))
      have h2 : ((flat t).drop ((flat t).length - i)).length ≤ (flat t).length := by simp
      omega
    rename Fr _ _ _ _ => F3
    rename News _ _ _ _ => N3
    k_dflt (refine eq_dataH (Reads.keeps F3.keep hv2) (reads_list_at (News.get N3 (by k_mem)) rfl rfl ReadsAll.nil) (cell_sh c) (by decide) (by show un + 3 + 64 < cLine; omega) ?_)
    cases c with
    | some a =>
      have e0 : PyData.eqv (cellD (some a)) (PyData.list []) = false := by simp [cellD, PyData.eqv, PyData.eqvAll]
      rw [e0]
      obtain ⟨lc, u, rfl, hlc, hat⟩ := reads_cell hv2
      walk_at "mine steps"
      rename Fr _ _ _ _ => F4
      rename News _ _ _ _ => N4
      rename _ < _ ∧ _ < _ ∧ AllLt _ _ => hl1
      rw [show us.reverse.toArray.push u = (u :: us).reverse.toArray by simp] at N4
      refine TurnPost.go _ F4 (news_rot1 N4) ?_ ⟨aT, u :: us, k + 1, _ :: old, rfl, rfl, ?_, ?_⟩
      · intro p hp
        rcases List.mem_cons.mp hp with rfl | hp
        · exact hTI
        · rcases List.mem_cons.mp hp with rfl | hp
          · exact Nat.ne_of_gt hl1.1
          · exact hoff _ (List.mem_cons_of_mem _ hp)
      · intro p hp
        rcases List.mem_cons.mp hp with rfl | hp
        · exact Nat.ne_of_gt hl1.2.1
        · exact hold _ hp
      · rw [hsuf]
        exact .cons (.leaf hat) (Paired.mono' hp fun _ _ q => q.mono fun _ _ m => List.mem_cons_of_mem _ m)
    | none =>
      have e0 : PyData.eqv (cellD Option.none) (PyData.list []) = true := by simp [cellD, PyData.eqv, PyData.eqvAll]
      rw [e0]
      obtain ⟨x, y, z, q, hq1, hq2⟩ := stk_marker (t := t) (pre := (flat t).take ((flat t).length - (i + 1))) (suf := (flat t).drop ((flat t).length - i)) (by rw [← hsuf, List.take_append_drop])
      rw [hq1] at hp
      cases hp with | cons p1 hp =>
      cases hp with | cons p2 hp =>
      cases hp with | cons p3 hp =>
      rename_i vx us vy us vz us
      simp only [List.reverse_cons] at *
      walk_at "mine steps"
      k_dflt (refine' call_cls ?k1 ?k2 ?k3 ?k4 ?k5 ?k6 ?_; (case k1 => k_asm); (case k2 => k_asm); (case k3 => k_asm); (case k4 => k_is); (case k5 => k_is); (case k6 => k_is); k_whole; intro x' d' h' F' N' l1 l2; (try k_lt l1); (try k_lt2 l2); (try k_sweep))
      have l3 := tbn_up l2 l1.2.2.2
      k_dflt (refine' code_def ?k1 ?k2 ?k3 ?k4 ?k5 ?kA ?kF ?kK ?k6 ?k7 ?k8 ?k9 ?kB ?_ ?c2 ?c3 ?c4 ?c5; (case kA => exact rfl); (case kF => exact rfl); (case kK => exact rfl); (case k1 => k_asm); (case k2 => k_asm); (case k3 => k_asm); (case k4 => k_asm); (case k5 => k_asm); (case k6 => k_is); (case k7 => k_is); (case k8 => (simp only [depth_under_make, depth_in1, depth_deeper]; show dp + 1 + 1 < recursionLimit; omega)); (case k9 => exact BindsTo.of_eq rfl); (case c5 => decide); (case kB => exact locs rfl); (case c2 => exact rfl); (case c3 => exact rfl); (case c4 => exact rfl); k_whole; intro g' L' h' FG' F' N' B' X' T'; (try dsimp only); (try k_fold))
      walk_at "mine steps"
      rename Fr _ _ _ _ => F4
      rename News _ _ _ _ => N4
      have l4 := tb_ltOf l3
      rw [show us.reverse.toArray.push (Value.ref x') = (Value.ref x' :: us).reverse.toArray by simp] at N4
      refine TurnPost.go _ F4 (news_rot3 N4) ?_ ⟨aT, .ref x' :: us, _, _ :: _ :: _ :: old, rfl, rfl, ?_, ?_⟩
      · intro p hp
        simp only [List.mem_cons] at hp
        rcases hp with rfl | rfl | rfl | rfl | hp
        · exact hTI
        · exact neN (by dsimp only; omega)
        · exact neN (by dsimp only; omega)
        · exact neN (by dsimp only; omega)
        · exact hoff _ (List.mem_cons_of_mem _ hp)
      · intro p hp
        simp only [List.mem_cons] at hp
        rcases hp with rfl | rfl | rfl | hp
        · exact neN (by dsimp only; omega)
        · exact neN (by dsimp only; omega)
        · exact neN (by dsimp only; omega)
        · exact hold _ hp
      · rw [hsuf, hq2]
        have up : ∀ {e f g : Addr × Obj} (a : Addr) (o : Obj), (a, o) ∈ old → (a, o) ∈ e :: f :: g :: old := fun _ _ m => .tail _ (.tail _ (.tail _ m))
        exact .cons (.node (.head _) (.tail _ (.head _)) (p1.mono up) (p2.mono up) (p3.mono up)) (Paired.mono' hp fun _ _ q => q.mono up)
  · rintro m1 nw h2 tk2 ⟨aT, us, k, old, e1, rfl, hold, hp⟩ F2 N2
    rw [hn, Nat.sub_self, List.drop_zero, flat_whole] at hp
    cases hp with | cons p1 hp =>
    cases hp
    simp only [List.reverse_cons, List.reverse_nil, List.nil_append] at N2
    replace F2 := fr_known [(Str.ofString "things", _)] F2 (by simp only [List.forall_mem_cons]; exact ⟨e1, List.forall_mem_nil _⟩)
    simp only [known] at F2
    clear N1 F1
    walk_at "mine steps"
    exact hR _ _ _ F2.keep (p1.mono fun a o m => ⟨(N2 _ (List.mem_cons_of_mem _ m)).1, (N2 _ (List.mem_cons_of_mem _ m)).2.2⟩)
end Mine
end
section
namespace Mine
def lowH (h : Heap) (L : Addr) : Heap := ⟨h.objs.extract 0 L, h.life⟩
theorem lowH_get {h : Heap} {L b : Addr} (hb : b < L) : (lowH h L).get? b = h.get? b := by
  have hb' : @LT.lt Nat _ b L := hb
  have e : (h.objs.extract 0 L)[b]? = h.objs[b]? := by
    rw [Array.getElem?_extract]
    by_cases hs : b < h.objs.size
    · have hs' : @LT.lt Nat _ b h.objs.size := hs
      rw [if_pos (by omega)]; simp
    · have hs' : ¬ @LT.lt Nat _ b h.objs.size := hs
      rw [if_neg (by omega), Array.getElem?_eq_none (by omega)]
  show (match (h.objs.extract 0 L)[b]? with | some ⟨_, _, .freed, _⟩ => Option.none | o => o) = _
  rw [e]; rfl
theorem lowH_size (h : Heap) (L : Addr) : (lowH h L).objs.size ≤ L := by
  show (h.objs.extract 0 L).size ≤ L
  simp; omega
theorem lowH_lt {h : Heap} {L b : Addr} {o : Obj} (e : (lowH h L).get? b = some o) : b < L := Nat.lt_of_lt_of_le (Heap.lt_size e) (lowH_size h L)
abbrev framesOf (l : List Env) : List Addr := l.filterMap (·.frame)
theorem below_all {A : Around} {base h : Heap} {outer : List Env} (B : Below A base outer h) : Below A (hideAll h (framesOf outer)) outer h :=
  ⟨B.stack, fun b o e => of_hideAll _ e, funFrames_hide B.frames fun env he a ha => List.mem_filterMap.mpr ⟨env, he, ha⟩⟩
theorem stays_all {A : Around} {base h : Heap} {outer : List Env} (B : Below A base outer h) : base.StaysIn (hideAll h (framesOf outer)) :=
  fun b o q => hideAll_get _ (B.stays b o q) fun hm => by rw [(B.frames.mem hm).1] at q; cases q

section
variable {w : World} {A₀ : Around} {s' : Shared} {base g h : Heap} {outer : List Env} {L a e : Addr} {m : Str → Option Value} {name : Str} {scope : Scope} {cd : Value} {nw : List (Addr × Obj)}
  {b₀ : Stmt} {suite : List Stmt} {pos np : Pos} {Q : Flow → Shared → Prop} {mean : ExcName → Option Value} {mg mb : Str → Option Value}
/-- the ledger stands when an exception has flown past -/
theorem off_frames (B : Below A₀ base outer g) (N : News g L h nw) : ∀ p ∈ nw, p.1 ∉ framesOf (envOf name scope L a cd :: outer) := by
  intro p hp hm
  obtain ⟨env, he, hf⟩ := List.mem_filterMap.mp hm
  rcases List.mem_cons.mp he with rfl | he
  · exact (N p hp).2.1 (Option.some.inj hf).symm
  · obtain ⟨o, ho, _⟩ := (B.frames.mem (List.mem_filterMap.mpr ⟨env, he, hf⟩)).2
    rw [(N p hp).2.2] at ho; cases ho
theorem caught_fly (B : Below A₀ base outer g) (F : Fr g L h m) (N : News g L h nw) (X : (hd.heap_39 w.params).In base) (T : TopAt mean mg mb base) (hbs : base.objs.size ≤ L)
    (hfl : Fly (hideAll h (framesOf (envOf name scope L a cd :: outer))) (envOf name scope L a cd :: outer) e s'.heap) (hsm : h.UpToSlots s'.heap)
    (k : ∀ g' h', Below A₀ base outer g' → Fr g' L h' m → News g' L h' nw → g.UpToSlots g' →
      wpAny (model PySem.Challenge.rw_dn0319_05.row.toRowW.prog w) ((A₀.deeper (envOf name scope L a cd)).mark (some (.ref e))) (execs (b₀ :: suite) (envOf name scope L a cd)) Q (fun _ _ => False) { s' with heap := h' })
    (hk : scope.kind = .function := by rfl) (hx : (envOf name scope L a cd).kindOf (Str.ofString "AttributeError") = some .globalImplicit := by rfl) :
    wpAny (model PySem.Challenge.rw_dn0319_05.row.toRowW.prog w) (A₀.deeper (envOf name scope L a cd)) (noteFrame (.ref e) (envOf name scope L a cd))
      (fun _ s₂ => wpAny (model PySem.Challenge.rw_dn0319_05.row.toRowW.prog w) (A₀.deeper (envOf name scope L a cd)) (setFlight (.ref e) none) (fun _ s₃ =>
        wpAny (model PySem.Challenge.rw_dn0319_05.row.toRowW.prog w) (A₀.deeper (envOf name scope L a cd)) (handleBy (.ref e) (envOf name scope L a cd) (.ExceptHandler (some (.Name (Str.ofString "AttributeError") np)) none (b₀ :: suite) pos :: [])) Q (fun _ _ => False) s₃) (fun _ _ => False) s₂) (fun _ _ => False) s' := by
  obtain ⟨a0, hfl⟩ := hfl
  have B' := B.push (name := name) (scope := scope) (a := a) (cd := cd) F hk
  have stB := stays_all B'
  refine wpAny_looks_onW (Around.frames_deeper B.stack) rfl hfl fun h₄ hheld₄ hsm₄ => ?_
  refine wpAny_landsW hheld₄ fun h₅ hheld hsm₅ => ?_
  have F₅ : Fr base L h₅ m := ⟨((hsm.trans hsm₄).trans hsm₅).ns F.ns, fun b o e => hheld.1 b o (stB b o e), hbs⟩
  obtain ⟨ob, hob, hobc⟩ := hheld.there
  have hE : PassesOwnAt (model PySem.Challenge.rw_dn0319_05.row.toRowW.prog w) ((A₀.deeper (envOf name scope L a cd)).mark (some (.ref e))) (A₀.deeper (envOf name scope L a cd)) (envOf name scope L a cd) (fun _ _ => False) := PassesOwnAt.never
  refine wpAny_handleBy_builtin (X := "AttributeError") (T := "AttributeError") (b := true) (by rw [isSubtype_type]; kernel_rfl) (by rw [isSubtype_type]; kernel_rfl) (by rw [isSubtype_type]; kernel_rfl)
    (ld_builtin_at F₅ T.g (T.free (Str.ofString "AttributeError") (by decide +kernel) (by decide +kernel) (by decide +kernel) (by decide +kernel) (by decide +kernel)) T.b ((T.builtins _ (by decide +kernel)).trans (by kernel_rfl)) ⟨rfl, ⟨ob, hob, hobc⟩, ?_⟩ hk hx (by decide))
  rw [if_pos rfl]
  refine lands_againW hheld fun h₆ hfl₆ hsm₆ => ?_
  have sm : h.UpToSlots h₆ := ((hsm.trans hsm₄).trans hsm₅).trans hsm₆
  have hg6 : ∀ b o, (hideAll (lowH h₆ L) (nw.map (·.1))).get? b = some o → h₆.get? b = some o := fun b o q => by
    have q1 := of_hideAll _ q
    rw [lowH_get (lowH_lt q1)] at q1; exact q1
  have up : g.UpToSlots (hideAll (lowH h₆ L) (nw.map (·.1))) := by
    intro b o q hnf
    obtain ⟨sl, q6⟩ := sm b o (F.keep b o q) hnf
    refine ⟨sl, hideAll_get _ ?_ ?_⟩
    · rw [lowH_get (Nat.lt_of_lt_of_le (Heap.lt_size q) F.above)]; exact q6
    · intro hm
      obtain ⟨p, hp, rfl⟩ := List.mem_map.mp hm
      rw [(N p hp).2.2] at q; cases q
  have F₆ : Fr (hideAll (lowH h₆ L) (nw.map (·.1))) L h₆ m := ⟨sm.ns F.ns, hg6, Nat.le_trans (Nat.le_of_eq (hideAll_size _ _)) (lowH_size _ _)⟩
  have N₆ : News (hideAll (lowH h₆ L) (nw.map (·.1))) L h₆ nw := fun p hp => ⟨hfl₆.1 _ _ (hideAll_get _ (N p hp).1 (off_frames B N p hp)), (N p hp).2.1, hideAll_none _ (List.mem_map_of_mem hp)⟩
  have B₆ : Below A₀ base outer (hideAll (lowH h₆ L) (nw.map (·.1))) := by
    refine ⟨B.stack, fun b o q => hideAll_get _ ?_ ?_, B.frames.of_keeps fun b o q hnf => ?_⟩
    · rw [lowH_get (Nat.lt_of_lt_of_le (Heap.lt_size q) hbs)]; exact hfl₆.1 _ _ (stB b o q)
    · intro hm
      obtain ⟨p, hp, rfl⟩ := List.mem_map.mp hm
      have := B.stays _ _ q
      rw [(N p hp).2.2] at this; cases this
    · obtain ⟨sl, q6⟩ := up b o q hnf
      exact ⟨_, q6, rfl⟩
  exact wpAny_passesOwnAt hE (k _ h₆ B₆ F₆ N₆ up)
end
end Mine
end
section
namespace Mine
/-- the signs that a plain value is written with -/
def aTxt : Atom → List Nat
  | .int i => (toString i).toList.map Char.toNat
  | .bool b => if b then [84, 114, 117, 101] else [70, 97, 108, 115, 101]
  | .str s _ => s.cps.toList
  | .none => [78, 111, 110, 101]
def headT : List Nat := [95, 116, 116, 105, 110, 102, 111, 40]
def txtT : Tree → List Nat
  | .leaf a => aTxt a
  | .node x y z => headT ++ (txtT x ++ (44 :: 32 :: (txtT y ++ (44 :: 32 :: (txtT z ++ [41])))))
def strOf (l : List Nat) : Str := ⟨l.toArray⟩
def showT (t : Tree) : Str := strOf (txtT t)
/-- the plain values of the law -/
def goodA (a : Atom) : Prop := (∃ i, a = .int i ∧ i.natAbs < 10 ^ 12) ∨ a = .bool true ∨ a = .none ∨ ∃ s ok, a = .str s ok ∧ (s = strOf [65] ∨ s = strOf [67, 69, 84] ∨ s = strOf [90, 117, 108, 117] ∨ s = strOf [66])
def goodT : Tree → Prop
  | .leaf a => goodA a
  | .node x y z => goodT x ∧ goodT y ∧ goodT z
theorem strOf_append (a b : List Nat) : strOf a ++ strOf b = strOf (a ++ b) := by
  show Str.append _ _ = _
  simp [Str.append, strOf]
theorem strOf_inj {a b : List Nat} (h : strOf a = strOf b) : a = b := by
  simp only [strOf, Str.mk.injEq] at h
  simpa using congrArg Array.toList h
theorem strOf_len (a : List Nat) : (strOf a).length = a.length := by simp [strOf, Str.length]
theorem strOf_cps (s : Str) : strOf s.cps.toList = s := by simp [strOf]
theorem ofString_strOf (s : String) : Str.ofString s = strOf (s.toList.map Char.toNat) := Str.ofString_eq_toList s
theorem dig_char (n : Nat) (h : n < 10) : (Nat.digitChar n).toNat = 48 + n := by
  have : n = 0 ∨ n = 1 ∨ n = 2 ∨ n = 3 ∨ n = 4 ∨ n = 5 ∨ n = 6 ∨ n = 7 ∨ n = 8 ∨ n = 9 := by omega
  rcases this with rfl | rfl | rfl | rfl | rfl | rfl | rfl | rfl | rfl | rfl <;> rfl
theorem nat_digits : ∀ (n : Nat), ∀ c ∈ (Nat.toDigits 10 n).map Char.toNat, 48 ≤ c ∧ c < 58 := by
  intro n
  induction n using Nat.strongRecOn with
  | _ n ih =>
    by_cases h : n < 10
    · intro c hc
      rw [Nat.toDigits_of_lt_base h] at hc
      simp only [List.map_cons, List.map_nil, List.mem_singleton] at hc
      rw [hc, dig_char n h]; omega
    · intro c hc
      rw [Nat.toDigits_of_base_le (by omega) (by omega)] at hc
      simp only [List.map_append, List.map_cons, List.map_nil, List.mem_append, List.mem_singleton] at hc
      rcases hc with hc | hc
      · exact ih (n / 10) (by omega) c hc
      · rw [hc, dig_char _ (by omega)]; omega
theorem nat_digits_len : ∀ (k n : Nat), n < 10 ^ (k + 1) → (Nat.toDigits 10 n).length ≤ k + 1
  | 0, n, h => by rw [Nat.toDigits_of_lt_base (by simpa using h)]; simp
  | k + 1, n, h => by
    by_cases h' : n < 10
    · rw [Nat.toDigits_of_lt_base h']; simp
    · rw [Nat.toDigits_of_base_le (by omega) (by omega)]
      have := nat_digits_len k (n / 10) (by rw [Nat.div_lt_iff_lt_mul (by omega)]; rw [Nat.pow_succ] at h; exact h)
      simp only [List.length_append, List.length_singleton]; omega
theorem nat_digits_ne (n : Nat) : Nat.toDigits 10 n ≠ [] := by
  by_cases h : n < 10
  · rw [Nat.toDigits_of_lt_base h]; simp
  · rw [Nat.toDigits_of_base_le (by omega) (by omega)]; simp
end Mine
end
section
open PySem PySem.W PyProof.Rows PySem.NumText
namespace Mine
theorem aTxt_nat (m : Nat) : aTxt (.int (m : Int)) = (Nat.toDigits 10 m).map Char.toNat := by
  show (Nat.repr m).toList.map Char.toNat = _
  rw [Nat.toList_repr]
theorem aTxt_neg (m : Nat) : aTxt (.int (Int.negSucc m)) = 45 :: (Nat.toDigits 10 (m + 1)).map Char.toNat := by
  show (("-" ++ Nat.repr (m + 1) : String)).toList.map Char.toNat = _
  rw [String.toList_append, Nat.toList_repr]
  simp
theorem int_signs (i : Int) (h : i.natAbs < 10 ^ 12) : (aTxt (.int i)).length ≤ 13 ∧ 1 ≤ (aTxt (.int i)).length ∧ ∀ c ∈ aTxt (.int i), c = 45 ∨ (48 ≤ c ∧ c < 58) := by
  cases i with
  | ofNat m =>
    have e := aTxt_nat m
    rw [show (Int.ofNat m) = (m : Int) from rfl, e]
    have h1 := nat_digits_len 11 m (by simpa using h)
    have h2 := nat_digits_ne m
    refine ⟨by simp; omega, ?_, fun c hc => .inr (nat_digits m c hc)⟩
    simp only [List.length_map]
    exact List.length_pos_iff.mpr h2
  | negSucc m =>
    rw [aTxt_neg m]
    have h1 := nat_digits_len 11 (m + 1) (by simpa using h)
    refine ⟨by simp; omega, by simp, fun c hc => ?_⟩
    rcases List.mem_cons.mp hc with hc | hc
    · exact .inl hc
    · exact .inr (nat_digits _ c hc)
theorem int_back (i : Int) (h : i.natAbs < 10 ^ 12) : PySem.intText? (strOf (aTxt (.int i))) = some i := by
  have hl := int_signs i h
  cases i with
  | ofNat m =>
    have e := aTxt_nat m
    have ee : (strOf (aTxt (.int (Int.ofNat m)))).cps.toList = (Nat.toDigits 10 m).map Char.toNat := by
      show (aTxt (.int (m : Int))).toArray.toList = _
      rw [e]
    have := intText_digits (x := strOf (aTxt (.int (Int.ofNat m)))) (by rw [ee]; exact fun c hc => by have := nat_digits m c hc; omega) (by rw [ee]; simp [nat_digits_ne m]) (by rw [strOf_len]; omega)
    rw [this, ee, KIN.val_back]
    rfl
  | negSucc m =>
    have ee : (strOf (aTxt (.int (Int.negSucc m)))).cps.toList = 45 :: (Nat.toDigits 10 (m + 1)).map Char.toNat := by
      show (aTxt (.int (Int.negSucc m))).toArray.toList = _
      rw [aTxt_neg m]
    have := intText_neg (x := strOf (aTxt (.int (Int.negSucc m)))) ee (fun c hc => by have := nat_digits _ c hc; omega) (by simp [nat_digits_ne (m + 1)]) (by rw [strOf_len]; omega)
    rw [this, KIN.val_back]
    rfl
/-- the facts of a written plain value -/
theorem good_signs {a : Atom} (h : goodA a) : (aTxt a).length ≤ 13 ∧ 1 ≤ (aTxt a).length ∧ ∀ c ∈ aTxt a, c ≠ 44 ∧ c ≠ 41 ∧ c ≠ 95 ∧ c < 128 := by
  rcases h with ⟨i, rfl, hi⟩ | rfl | rfl | ⟨s, ok, rfl, h⟩
  · obtain ⟨h1, h2, h3⟩ := int_signs i hi
    exact ⟨h1, h2, fun c hc => by have := h3 c hc; omega⟩
  · exact ⟨by decide, by decide, by decide⟩
  · exact ⟨by decide, by decide, by decide⟩
  · rcases h with rfl | rfl | rfl | rfl
    · exact ⟨by simp [aTxt, strOf], by simp [aTxt, strOf], by simp [aTxt, strOf]⟩
    · exact ⟨by simp [aTxt, strOf], by simp [aTxt, strOf], by simp [aTxt, strOf]⟩
    · exact ⟨by simp [aTxt, strOf], by simp [aTxt, strOf], by simp [aTxt, strOf]⟩
    · exact ⟨by simp [aTxt, strOf], by simp [aTxt, strOf], by simp [aTxt, strOf]⟩
theorem good_len {t : Tree} (h : goodT t) : (txtT t).length ≤ 13 * (flat t).length := by
  induction t with
  | leaf a => have := (good_signs h).1; simpa [txtT, flat] using this
  | node x y z ix iy iz =>
    have h1 := ix h.1
    have h2 := iy h.2.1
    have h3 := iz h.2.2
    simp only [txtT, flat, headT, List.length_append, List.length_cons, List.length_nil] at *
    omega
theorem good_mem {t : Tree} (h : goodT t) : ∀ a, some a ∈ flat t → goodA a := by
  induction t with
  | leaf b => intro a ha; simp [flat] at ha; subst ha; exact h
  | node x y z ix iy iz =>
    intro a ha
    simp only [flat, List.mem_cons, List.mem_append] at ha
    rcases ha with ha | ha | ha | ha
    · cases ha
    · exact ix h.1 a ha
    · exact iy h.2.1 a ha
    · exact iz h.2.2 a ha
theorem txt_pos {t : Tree} (h : goodT t) : 1 ≤ (txtT t).length := by
  cases t with
  | leaf a => exact (good_signs h).2.1
  | node x y z => simp [txtT, headT]
end Mine
end
section
open PySem PySem.W PyProof.Rows Builtin Builtin.ObjectAttr Builtin.Getset_descriptor
namespace Mine
section
variable {prog : Program} {w : World} {A : Around} {E : Value → Shared → Prop} {s : Shared} {K : Frag} {R : Result → Shared → Prop} {h₀ : Heap} {L C x : Addr} {m : Str → Option Value} {oc ox od : Obj} {v : Value}
/-- the class of an object whose class has slots -/
theorem get_class_slots {expr : Bool} {Q : Value → Shared → Prop} (F : Fr h₀ L s.heap m) (X₀ : K.In h₀) (I : InstAt s.heap x ox C (some od)) (hg : plainGet K C "__class__" = true) (hc : isClsIn K C = true)
    (ha : findIn K (.ref C) "__class__" = some (some (.builtin "object.__class__"))) (hn : specialIn K (.builtin "object.__class__") "__get__" = some (some (.builtin "getset_descriptor.__get__"))) (ht : takesIn K (.builtin "object.__class__") = some true)
    (hm : mroIn K C (.type "object") = some true) (h : Q (.ref C) { s with toks := s.toks + 1 }) : wpAny (model prog w) A (getAttr (.ref x) "__class__" expr) Q E s :=
  get_bind (X₀.keeps F.keep) I (plainGet_of hg).1 (findObj_data hc ha hn ht) (plainGet_of hg).2
    (wpAny_call (class_get (s := { s with toks := s.toks + 1 }) (ox := ox) (od := some od) (X₀.keeps F.keep) I hm (handed_on rfl h)))
/-- the name of a class that keeps it -/
theorem name_get {tp : Value} (X : K.In s.heap) (hT : typeIn K (.ref C) = some (.type "type")) (hC : s.heap.get? C = some oc) (hv : (oc.slots[2]?).join = some v) (h : R (.ok (.ret v)) s) :
    codeAny (model prog w) A (.call (.builtin "getset_descriptor.__get__") ⟨[.builtin "type.__name__", .ref C, tp], []⟩) R s := by
  have L0 : Looks (model prog w) s.heap (typeOf (.ref C)) (.type "type") := looks_typeIn X hT
  obtain ⟨hh, g, dr, t, os⟩ := s
  have L1 : Looks (model prog w) hh (isSubtype (.type "type") (.type "type")) true := Looks.of_pure (by rw [isSubtype_type]; kernel_rfl)
  dsimp only at L0 hC
  refine codeAny_call_builtin KF.slot_gs.plain KF.entry_gs (KF.slot_gs.check _ _ _ _ _ _ _ _ ktyn_type (KF.args_gs _ _ _) ?_)
  unfold Builtin.«getset_descriptor.__get__» descrGet
  rw [dga_obj]
  refine wpAny_bind (wpAny_pure ?_)
  unfold descrGetter descrCheckInstance descrNameAndClass isInstance
  simp only [ktyn_owner]
  repeat lk
  refine ⟨Code.quiet_builtin _ (by decide +kernel), codeAny_builtin ktyn_entry ?_⟩
  unfold Builtin.«type.__name__» keptObject
  dsimp only
  unfold slotAt
  repeat lk
  rw [hv]
  exact wpAny_pure h
theorem name_own {expr : Bool} {Q : Value → Shared → Prop} (F : Fr h₀ L s.heap m) (X₀ : K.In h₀) (hr : readsIn K C (.type "type") = true)
    (e : findCls K (.ref C) (.type "type") "__name__" = some (.get (.builtin "getset_descriptor.__get__") (.builtin "type.__name__") (.ref C) (.type "type"))) (hT : typeIn K (.ref C) = some (.type "type"))
    (hC : K.lookup C = some oc) (hv : (oc.slots[2]?).join = some v) (hh : handedIn v = true) (h : Q v { s with toks := s.toks + 1 }) : wpAny (model prog w) A (getAttr (.ref C) "__name__" expr) Q E s :=
  cls_bind (X₀.keeps F.keep) hr e (wpAny_call (name_get (s := { s with toks := s.toks + 1 }) (X₀.keeps F.keep) hT (X₀.keeps F.keep _ _ hC) hv (handed_on hh h)))
end
end Mine
end
section
namespace Mine
local macro_rules | `(tactic| walk_at "mine step") => `(tactic| first | (k_unfold; (try dsimp only)) | (k_end; wrow_close) | walk1 | (dsimp only; walk1) | (leave1; walk_say "STEP leave1"; try dsimp only) | fail "no step")
local macro_rules | `(tactic| walk_at "mine steps") => `(tactic| repeat' walk_at "mine step")
local macro_rules | `(tactic| walk_at "mine to field") => `(tactic| repeat' ((fail_if_success (with_reducible show wpAny _ _ (PySem.formatField _ _) _ _ _)); walk_at "mine step"))
local macro_rules | `(tactic| walk_at "getAttr ref") => `(tactic| first
  | ((with_reducible show wpAny _ _ (getAttr _ (Str.ofString "utcoff") _) _ _ _); refine get_utcoff (by k_asm) (by k_asm) (Fr.keep (by k_asm) _ _ (by assumption)) (Fr.keep (by k_asm) _ _ (by assumption)) (by assumption) ?_)
  | ((with_reducible show wpAny _ _ (getAttr _ (Str.ofString "dstoff") _) _ _ _); refine get_dstoff (by k_asm) (by k_asm) (Fr.keep (by k_asm) _ _ (by assumption)) (Fr.keep (by k_asm) _ _ (by assumption)) (by assumption) ?_)
  | ((with_reducible show wpAny _ _ (getAttr _ (Str.ofString "tzname") _) _ _ _); refine get_tzname (by k_asm) (by k_asm) (Fr.keep (by k_asm) _ _ (by assumption)) (Fr.keep (by k_asm) _ _ (by assumption)) (by assumption) ?_))
theorem len_open : (Str.ofString "(").length = 1 := by decide +kernel
theorem len_sep : (Str.ofString ", ").length = 2 := by decide +kernel
theorem len_close : (Str.ofString ")").length = 1 := by decide +kernel
theorem len_name : (Str.ofString "_ttinfo").length = 7 := by decide +kernel
theorem len_empty : Str.empty.length = 0 := by decide +kernel
theorem show_len {t : Tree} (h : goodT t) : (showT t).length ≤ 13 * (flat t).length := by
  rw [showT, strOf_len]; exact good_len h
local macro_rules | `(tactic| walk_at "mine fits") => `(tactic| (simp only [Str.length_append, len_open, len_sep, len_close, len_name, len_empty]; show _ ≤ 2 ^ 24; omega))
theorem show_node (x y z : Tree) : Str.ofString "_ttinfo" ++ (Str.empty ++ Str.ofString "(" ++ showT x ++ Str.ofString ", " ++ showT y ++ Str.ofString ", " ++ showT z ++ Str.ofString ")") = showT (.node x y z) := by
  have e1 : Str.ofString "_ttinfo" = strOf [95, 116, 116, 105, 110, 102, 111] := by decide +kernel
  have e2 : Str.ofString "(" = strOf [40] := by decide +kernel
  have e3 : Str.ofString ", " = strOf [44, 32] := by decide +kernel
  have e4 : Str.ofString ")" = strOf [41] := by decide +kernel
  have e5 : Str.empty = strOf [] := rfl
  rw [e1, e2, e3, e4, e5]
  simp only [showT, strOf_append, txtT, headT]
  congr 1
  simp
/-- what writing a tree does -/
def Writes (w : World) (mean : ExcName → Option Value) (mg mb : Str → Option Value) (go : Value → Sem Value) (t : Tree) (k : Nat) : Prop :=
  ∀ (dp un : Nat) (fr : Option (List Env)) (gd : Option (List Code)) (s : Shared) (v : Value) (Q E : Value → Shared → Prop),
    (hd.heap_39 w.params).In s.heap → TopAt mean mg mb s.heap → dp + t.size + 10 < recursionLimit → un + 10 * t.size + k < cLine → TreeH s.heap v t → goodT t → (flat t).length < 1000 →
    (∀ h' u tk, (∀ a o, s.heap.get? a = some o → h'.get? a = some o) → Q (.str (showT t) u) { s with heap := h', toks := tk }) →
    wpAny (model PySem.Challenge.rw_dn0319_05.row.toRowW.prog w) { handled := none, depth := dp, frames := fr, guards := gd, units := un } (go v) Q E s
theorem repr_body {w : World} {mean : ExcName → Option Value} {mg mb : Str → Option Value} {x y z : Tree}
    (h1 : Writes w mean mg mb (fun v => formatField v Str.empty) x 45) (h2 : Writes w mean mg mb (fun v => formatField v Str.empty) y 45) (h3 : Writes w mean mg mb (fun v => formatField v Str.empty) z 45) :
    Writes w mean mg mb (fun v => call (.ref 43) [v]) (.node x y z) 40 := by
  intro dp un fr gd s v Q E X T hd hu hv hgood hlen hQ
  cases hv with | @node o do' a b c _ _ _ g1 g2 p1 p2 p3 =>
  have q1 := p1.handed
  have q2 := p2.handed
  have q3 := p3.handed
  have s1 := show_len hgood.1
  have s2 := show_len hgood.2.1
  have s3 := show_len hgood.2.2
  simp only [Tree.size] at hd hu
  simp only [flat, List.length_cons, List.length_append] at hlen
  revert X; k_fill; intro X
  refine wpAny_call ?_
  k_dflt (refine' enter0 X T.nolimit ?k6 ?k7 ?k8 ?k9 ?kB ?_ ?c2 ?c3 ?c4 ?c5; (case k6 => k_is); (case k7 => k_is); (case k8 => (dsimp only; omega)); (case k9 => exact BindsTo.of_eq rfl); (case c5 => decide); (case kB => exact locs rfl); (case c2 => exact rfl); (case c3 => exact rfl); (case c4 => exact rfl); k_whole; intro h' L' F' N')
  refine wpAny_noRaise ?_
  k_fold
  walk_at "mine to field"
  rename Fr _ _ _ _ => F
  k_dflt (refine' get_class_slots F X (node_inst (F.keep _ _ g1) (F.keep _ _ g2)) ?k4 ?k5 ?k6 ?k7 ?k8 ?k9 ?_; (case k4 => k_is); (case k5 => k_is); (case k6 => k_is); (case k7 => k_is); (case k8 => k_is); (case k9 => k_is); k_whole)
  walk_at "mine to field"
  k_dflt (refine' name_own F X ?k1 ?k2 ?k3 ?k4 ?k5 ?k6 ?_; (case k1 => k_is); (case k2 => k_is); (case k3 => k_is); (case k4 => k_is); (case k5 => exact rfl); (case k6 => exact rfl); k_whole)
  walk_at "mine to field"
  k_dflt (refine formatField_str (fun t' tk => ?_) (by decide +kernel))
  walk_at "mine to field"
  k_dflt (refine h1 (dp + 1) (un + 3) _ gd _ _ _ _ (X.keeps F.keep) (T.keeps F.keep) (by omega) (by omega) (p1.mono F.keep) hgood.1 (by omega) ?_)
  intro h4 u4 tk4 hk4
  replace F := F.keeps hk4
  rename News _ _ _ _ => N
  replace N := N.grown hk4
  walk_at "mine to field"
  k_dflt (refine h2 (dp + 1) (un + 3) _ gd _ _ _ _ (X.keeps F.keep) (T.keeps F.keep) (by omega) (by omega) (p2.mono F.keep) hgood.2.1 (by omega) ?_)
  intro h5 u5 tk5 hk5
  replace F := F.keeps hk5
  replace N := N.grown hk5
  walk_at "mine to field"
  k_dflt (refine h3 (dp + 1) (un + 3) _ gd _ _ _ _ (X.keeps F.keep) (T.keeps F.keep) (by omega) (by omega) (p3.mono F.keep) hgood.2.2 (by omega) ?_)
  intro h6 u6 tk6 hk6
  replace F := F.keeps hk6
  replace N := N.grown hk6
  walk_at "mine to field"
  have fin := fun u tk => hQ _ u tk F.keep
  rw [← show_node] at fin
  exact fin _ _
theorem field_tree {w : World} {mean : ExcName → Option Value} {mg mb : Str → Option Value} : ∀ t : Tree, Writes w mean mg mb (fun v => formatField v Str.empty) t 45 := by
  intro t
  induction t with
  | leaf a =>
    intro dp un fr gd s v Q E X T hd hu hv hgood hlen hQ
    cases hv with | leaf e =>
    have key : ∀ u tk, Q (.str (showT (.leaf a)) u) { s with toks := tk } := fun u tk => hQ s.heap u tk fun _ _ e => e
    cases e with
    | int i t =>
      refine formatField_int_small ?_ ?_
      · rcases hgood with ⟨j, e, hj⟩ | e | e | ⟨_, _, e, _⟩
        · cases e
          by_cases h0 : i.natAbs = 0
          · rw [h0]; decide
          · exact Nat.lt_of_lt_of_le ((Nat.log2_lt h0).mpr (Nat.lt_of_lt_of_le hj (by decide : 10 ^ 12 ≤ 2 ^ 40))) (by decide)
        · cases e
        · cases e
        · cases e
      · have := key (s.toks + 1) (s.toks + 1 + 1)
        rw [ofString_strOf]
        exact this
    | bool b =>
      refine wpAny_formatField_bool ?_
      have := key (s.toks + 1) (s.toks + 1 + 1)
      cases b
      · exact this
      · exact this
    | str x t ok =>
      refine formatField_str (fun u tk => ?_) ?_
      · have := key u tk
        rw [showT, txtT, aTxt, strOf_cps] at this
        exact this
      · have := show_len (t := .leaf (.str x ok)) hgood
        rw [showT, txtT, aTxt, strOf_cps] at this
        simp only [flat, List.length_singleton] at this
        show _ ≤ 2 ^ 24
        omega
    | none =>
      exact wpAny_formatField_none (key (s.toks + 1) (s.toks + 1 + 1))
  | node x y z ix iy iz =>
    intro dp un fr gd s v Q E X T hd hu hv hgood hlen hQ
    have hv' := hv
    cases hv' with | node g1 g2 _ _ _ =>
    revert X; k_fill; intro X
    refine kfo_fieldR (by show un + 1 < cLine; omega) (by show un + 2 < cLine; omega) X (node_inst g1 g2) (by k_is) (by k_is) (by k_is) (f := 43) (by k_is) (by k_is) ?_
    refine repr_body ix iy iz dp (un + 2) fr gd _ _ _ _ X T hd (by omega) hv hgood hlen ?_
    intro h' u tk hk
    exact hQ h' u tk hk
end Mine
end
section
namespace Mine
theorem flat_len : ∀ t : Tree, (flat t).length = 3 * t.size + 1 := by
  intro t
  induction t with
  | leaf a => rfl
  | node x y z ix iy iz => simp only [flat, List.length_cons, List.length_append, ix, iy, iz, Tree.size]; omega
def CellP (G : Addr → Obj → Prop) (u : Value) (c : Option Atom) : Prop := ∃ b ws k, u = .ref b ∧ G b (W.listOf (List.toArray ws) k) ∧ Paired IsAtom ws c.toList
def RowP (G : Addr → Obj → Prop) (v : Value) (r : Row) : Prop := ∃ a us k, v = .ref a ∧ G a (W.listOf (List.toArray us) k) ∧ Paired (CellP G) us r
theorem CellP.mono {G G' : Addr → Obj → Prop} {v : Value} {c : Option Atom} (h : CellP G v c) (k : ∀ a o, G a o → G' a o) : CellP G' v c := by
  obtain ⟨b, ws, n, e, g, p⟩ := h
  exact ⟨b, ws, n, e, k _ _ g, p⟩
theorem RowP.mono {G G' : Addr → Obj → Prop} {v : Value} {r : Row} (h : RowP G v r) (k : ∀ a o, G a o → G' a o) : RowP G' v r := by
  obtain ⟨b, ws, n, e, g, p⟩ := h
  exact ⟨b, ws, n, e, k _ _ g, Paired.mono' p fun _ _ q => q.mono k⟩
theorem cell_reads {h : Heap} {v : Value} {c : Option Atom} (p : CellP (fun a o => h.get? a = some o) v c) : ∃ as, Reads h v (cellD c) as := by
  obtain ⟨b, ws, n, rfl, g, p⟩ := p
  cases c with
  | none => cases p; exact ⟨_, reads_list_at g rfl rfl .nil⟩
  | some a =>
    cases p with | cons q p =>
    cases p
    exact ⟨_, reads_list_at g rfl rfl (.cons (q.reads _) .nil)⟩
theorem cells_reads {h : Heap} {vs : List Value} {r : Row} (p : Paired (CellP (fun a o => h.get? a = some o)) vs r) : ∃ as, ReadsAll h vs (r.map cellD) as := by
  induction p with
  | nil => exact ⟨_, .nil⟩
  | cons q _ ih =>
    obtain ⟨as, r1⟩ := cell_reads q
    obtain ⟨bs, r2⟩ := ih
    exact ⟨_, .cons r1 r2⟩
theorem row_reads {h : Heap} {v : Value} {r : Row} (p : RowP (fun a o => h.get? a = some o) v r) : ∃ as, Reads h v (rowD r) as := by
  obtain ⟨b, ws, n, rfl, g, p⟩ := p
  obtain ⟨as, q⟩ := cells_reads p
  exact ⟨_, reads_list_at g rfl rfl q⟩
/-- the objects of a tree, as a ledger -/
theorem tree_ledger {G : Addr → Obj → Prop} {v : Value} {t : Tree} (h : TreeP G v t) : ∃ tl : List (Addr × Obj), (∀ p ∈ tl, G p.1 p.2) ∧ TreeP (fun a o => (a, o) ∈ tl) v t := by
  induction h with
  | leaf e => exact ⟨[], List.forall_mem_nil _, .leaf e⟩
  | @node x dx a b c t1 t2 t3 g1 g2 _ _ _ i1 i2 i3 =>
    obtain ⟨l1, a1, b1⟩ := i1
    obtain ⟨l2, a2, b2⟩ := i2
    obtain ⟨l3, a3, b3⟩ := i3
    refine ⟨(x, nodeObj dx a b c) :: (dx, dictOf [] 0) :: (l1 ++ (l2 ++ l3)), ?_, .node (.head _) (.tail _ (.head _)) (b1.mono ?_) (b2.mono ?_) (b3.mono ?_)⟩
    · intro p hp
      simp only [List.mem_cons, List.mem_append] at hp
      rcases hp with rfl | rfl | hp | hp | hp
      · exact g1
      · exact g2
      · exact a1 p hp
      · exact a2 p hp
      · exact a3 p hp
    · intro a o m; exact .tail _ (.tail _ (List.mem_append_left _ m))
    · intro a o m; exact .tail _ (.tail _ (List.mem_append_right _ (List.mem_append_left _ m)))
    · intro a o m; exact .tail _ (.tail _ (List.mem_append_right _ (List.mem_append_right _ m)))
theorem paired_get {α β : Type} {P : α → β → Prop} {l : List α} {k : List β} (h : Paired P l k) : ∀ (i : Nat) (b : β), k[i]? = some b → ∃ a, l[i]? = some a ∧ P a b := by
  induction h with
  | nil => intro i b e; simp at e
  | cons p _ ih =>
    intro i b e
    cases i with
    | zero => simp at e; subst e; exact ⟨_, rfl, p⟩
    | succ i => simpa using ih i b (by simpa using e)
theorem paired_take {α β : Type} {P : α → β → Prop} {l : List α} {k : List β} (h : Paired P l k) : ∀ n, Paired P (l.take n) (k.take n) := by
  induction h with
  | nil => intro n; simpa using Paired.nil
  | cons p _ ih =>
    intro n
    cases n with
    | zero => simpa using Paired.nil
    | succ n => simpa using .cons p (ih n)
theorem paired_drop {α β : Type} {P : α → β → Prop} {l : List α} {k : List β} (h : Paired P l k) : ∀ n, Paired P (l.drop n) (k.drop n) := by
  induction h with
  | nil => intro n; simpa using Paired.nil
  | cons p q ih =>
    intro n
    cases n with
    | zero => simpa using .cons p q
    | succ n => simpa using ih n
theorem paired_append {α β : Type} {P : α → β → Prop} {l l' : List α} {k k' : List β} (h : Paired P l k) (h' : Paired P l' k') : Paired P (l ++ l') (k ++ k') := by
  induction h with
  | nil => simpa using h'
  | cons p _ ih => simpa using .cons p ih
section
variable {w : World} {mean : ExcName → Option Value} {mg mb : Str → Option Value} {dp un : Nat} {gd : Option (List Code)} {outer : List Env} {base h₀ : Heap} {L : Addr} {m : Str → Option Value} {news : List (Addr × Obj)} {s : Shared} {Q E : Value → Shared → Prop}
/-- new objects, put onto the ledger -/
theorem news_more {h' : Heap} {tl : List (Addr × Obj)} (F : Fr h₀ L s.heap m) (N : News h₀ L s.heap news) (hk : ∀ b o, s.heap.get? b = some o → h'.get? b = some o) (ht : ∀ p ∈ tl, h'.get? p.1 = some p.2 ∧ s.heap.get? p.1 = none) :
    News h₀ L h' (tl ++ news) ∧ ∀ p ∈ tl, ∀ q ∈ news, p.1 ≠ q.1 := by
  refine ⟨fun p hp => ?_, fun p hp q hq e => ?_⟩
  · rcases List.mem_append.mp hp with hp | hp
    · obtain ⟨h1, h2⟩ := ht p hp
      obtain ⟨o, _, _, ho, _⟩ := F.ns
      refine ⟨h1, (fun e => by rw [e, ho] at h2; cases h2), ?_⟩
      cases q : h₀.get? p.1 with
      | none => rfl
      | some o => rw [F.keep _ _ q] at h2; cases h2
    · exact (N.grown hk) p hp
  · have h1 := (ht p hp).2
    rw [e, (N q hq).1] at h1; cases h1
theorem use_made {v : Value} {t : Tree} (X : (hd.heap_39 w.params).In h₀) (T : TopAt mean mg mb h₀) (hd : dp + 10 < recursionLimit) (hu : un + 100 < cLine) (B : Below (ar dp un gd outer) base outer s.heap) (F : Fr h₀ L s.heap m) (N : News h₀ L s.heap news)
    (hr : RowP (fun a o => (a, o) ∈ news) v (flat t)) (hlen : (flat t).length < 1000)
    (k : ∀ r tl h' tk, Fr h₀ L h' m → News h₀ L h' (tl ++ news) → (∀ p ∈ tl, ∀ q ∈ news, p.1 ≠ q.1) → TreeP (fun a o => (a, o) ∈ tl) r t → Q r { s with heap := h', toks := tk }) :
    wpAny (model PySem.Challenge.rw_dn0319_05.row.toRowW.prog w) (ar dp un gd outer) (call (.ref 59) [v]) Q E s := by
  obtain ⟨as, hr⟩ := row_reads (h := s.heap) (hr.mono fun a o q => (N _ q).1)
  refine wpAny_call (made_call (X.keeps F.keep) (T.keeps F.keep) hd hu B hr hlen fun r h' tk hk ht => ?_)
  obtain ⟨tl, h1, h2⟩ := tree_ledger ht
  obtain ⟨N', off⟩ := news_more F N hk h1
  exact k r tl h' tk (F.keeps hk) N' off h2
end
theorem off1_mem {D : Addr} : ∀ {l : List (Addr × Obj)}, LCg.Off1 D l → ∀ p ∈ l, p.1 ≠ D
  | [], _, _, h => nomatch h
  | _ :: _, x, p, h => by
    rcases List.mem_cons.mp h with rfl | h
    · exact x.1
    · exact off1_mem x.2 p h
theorem pick_mid {us : List Value} {a b : Nat} (ha : a ≤ us.length) (hb : b ≤ us.length) : kms_pick us (some (a : Int)) (some (b : Int)) = (us.drop a).take (b - a) := by
  have h1 : ¬ ((a : Int) < 0) := by omega
  have h2 : ¬ ((b : Int) < 0) := by omega
  simp only [kms_pick, kms_lo, kms_hi, if_neg h1, if_neg h2, Int.toNat_natCast, Nat.min_eq_left ha, Nat.min_eq_left hb]
theorem pick_to {us : List Value} {b : Nat} (hb : b ≤ us.length) : kms_pick us none (some (b : Int)) = us.take b := by
  have h2 : ¬ ((b : Int) < 0) := by omega
  simp only [kms_pick, kms_lo, kms_hi, if_neg h2, Int.toNat_natCast, Nat.min_eq_left hb, List.drop_zero, Nat.sub_zero]
theorem pick_from {us : List Value} {a : Nat} (ha : a ≤ us.length) : kms_pick us (some (a : Int)) none = us.drop a := by
  have h1 : ¬ ((a : Int) < 0) := by omega
  simp only [kms_pick, kms_lo, kms_hi, if_neg h1, Int.toNat_natCast, Nat.min_eq_left ha]
  rw [List.take_of_length_le]; simp
theorem regroup2 {h₀ h : Heap} {L : Addr} {e1 e2 i r m : Addr × Obj} {old : List (Addr × Obj)} (N : News h₀ L h (e1 :: e2 :: i :: r :: m :: old)) (hi : ∀ p ∈ old, p.1 ≠ i.1) (hr : ∀ p ∈ old, p.1 ≠ r.1) (hm : ∀ p ∈ old, p.1 ≠ m.1)
    (a1 : e1.1 ≠ i.1 ∧ e1.1 ≠ r.1 ∧ e1.1 ≠ m.1) (a2 : e2.1 ≠ i.1 ∧ e2.1 ≠ r.1 ∧ e2.1 ≠ m.1) :
    ∃ old2, (∀ p ∈ old, p ∈ old2) ∧ e1 ∈ old2 ∧ e2 ∈ old2 ∧ News h₀ L h (i :: r :: m :: old2) ∧ (∀ p ∈ old2, p.1 ≠ i.1) ∧ (∀ p ∈ old2, p.1 ≠ r.1) ∧ (∀ p ∈ old2, p.1 ≠ m.1) := by
  refine ⟨e1 :: e2 :: old, fun p hp => .tail _ (.tail _ hp), .head _, .tail _ (.head _), news_sub N ?_, ?_, ?_, ?_⟩
  · intro p hp; simp only [List.mem_cons] at hp ⊢; grind
  · intro p hp
    simp only [List.mem_cons] at hp
    rcases hp with rfl | rfl | hp
    · exact a1.1
    · exact a2.1
    · exact hi p hp
  · intro p hp
    simp only [List.mem_cons] at hp
    rcases hp with rfl | rfl | hp
    · exact a1.2.1
    · exact a2.2.1
    · exact hr p hp
  · intro p hp
    simp only [List.mem_cons] at hp
    rcases hp with rfl | rfl | hp
    · exact a1.2.2
    · exact a2.2.2
    · exact hm p hp
theorem part_abs {h₀ h : Heap} {L D : Addr} {m : Str → Option Value} {x : Str} {zs : List Value} {k : Nat} {r : Row} {G : Addr → Obj → Prop} (_F : Fr h₀ L h m) (e : m x = some (.ref D)) (hm : G D (W.listOf zs.toArray k)) (hp : Paired (CellP G) zs r) :
    ∃ pv, m x = some pv ∧ RowP G pv r := ⟨_, e, _, _, _, rfl, hm, hp⟩
theorem plain_abs {h₀ h : Heap} {L D : Addr} {m : Str → Option Value} {x : Str} {zs : List Value} {k : Nat} {G : Addr → Obj → Prop} (_F : Fr h₀ L h m) (e : m x = some (.ref D)) (hm : G D (W.listOf zs.toArray k)) (hp : ∃ as, as.length = 6 ∧ Paired IsAtom zs as) :
    ∃ aP zs k, m x = some (.ref aP) ∧ G aP (W.listOf (List.toArray zs) k) ∧ ∃ as : List Atom, as.length = 6 ∧ Paired IsAtom zs as := ⟨_, _, _, e, hm, hp⟩
/-- several ways meet -/
def Joined (P : Shared → Prop) (f : Flow) (s' : Shared) : Prop := f = .next ∧ P s'
theorem Joined.mk {P : Shared → Prop} {s' : Shared} (h : P s') : Joined P .next s' := ⟨rfl, h⟩
theorem join {M : Model} {A : Around} {t : Sem Flow} {Q : Flow → Shared → Prop} {E : Value → Shared → Prop} {s : Shared} (P : Shared → Prop) (h : wpAny M A t (Joined P) E s) (k : ∀ s', P s' → Q .next s') : wpAny M A t Q E s :=
  wpAny_mono h (fun f s' x => by obtain ⟨rfl, x⟩ := x; exact k s' x) (fun _ _ x => x)
theorem add_K {prog : Program} {w : World} {A : Around} {E : Value → Shared → Prop} {s : Shared} {h₀ : Heap} {L l b : Addr} {m : Str → Option Value} {news : List (Addr × Obj)} {vs ws : List Value} {Q : Value → Shared → Prop}
    (F : Fr h₀ L s.heap m) (N : News h₀ L s.heap news) (hl : s.heap.IsList l vs.toArray) (hb : s.heap.IsList b ws.toArray)
    (h : ∀ D h', Fr h₀ L h' m → News h₀ L h' ((D, W.listOf (vs ++ ws).toArray 0) :: news) → (∀ p ∈ news, p.1 < D) → Q (.ref D) { s with heap := h' }) (hsz : vs.length + ws.length ≤ sizeLine) :
    wpAny (model prog w) A (binaryOp .Add (.ref l) (.ref b)) Q E s :=
  add_lists F N hl hb (fun h' F' N' => h _ h' F' N' fun p hp => Heap.lt_size (N p hp).1) hsz
theorem regroupN {h₀ h : Heap} {L : Addr} {i r m : Addr × Obj} {es old : List (Addr × Obj)} (N : News h₀ L h (es ++ i :: r :: m :: old)) (hi : ∀ p ∈ old, p.1 ≠ i.1) (hr : ∀ p ∈ old, p.1 ≠ r.1) (hm : ∀ p ∈ old, p.1 ≠ m.1)
    (a : ∀ e ∈ es, e.1 ≠ i.1 ∧ e.1 ≠ r.1 ∧ e.1 ≠ m.1) :
    ∃ old2, (∀ p ∈ old, p ∈ old2) ∧ (∀ p ∈ es, p ∈ old2) ∧ News h₀ L h (i :: r :: m :: old2) ∧ (∀ p ∈ old2, p.1 ≠ i.1) ∧ (∀ p ∈ old2, p.1 ≠ r.1) ∧ (∀ p ∈ old2, p.1 ≠ m.1) := by
  refine ⟨es ++ old, fun p hp => List.mem_append_right _ hp, fun p hp => List.mem_append_left _ hp, news_sub N ?_, ?_, ?_, ?_⟩
  · intro p hp; simp only [List.mem_cons, List.mem_append] at hp ⊢; grind
  · intro p hp
    rcases List.mem_append.mp hp with hp | hp
    · exact (a p hp).1
    · exact hi p hp
  · intro p hp
    rcases List.mem_append.mp hp with hp | hp
    · exact (a p hp).2.1
    · exact hr p hp
  · intro p hp
    rcases List.mem_append.mp hp with hp | hp
    · exact (a p hp).2.2
    · exact hm p hp
theorem pick_len (us : List Value) (lo hi : Option Int) : (kms_pick us lo hi).length ≤ us.length := by
  unfold kms_pick
  simp only [List.length_take, List.length_drop]; omega
theorem slice_K {prog : Program} {w : World} {A : Around} {E : Value → Shared → Prop} {s : Shared} {h₀ : Heap} {L l : Addr} {m : Str → Option Value} {news : List (Addr × Obj)} {value slice : PySem.Expr} {us : List Value} {vl vu : Value} {lo hi : Option Int} {Q : Value → Shared → Prop}
    (F : Fr h₀ L s.heap m) (N : News h₀ L s.heap news) (hl : s.heap.IsList l us.toArray) (pl : IsPart vl lo) (pu : IsPart vu hi)
    (h : ∀ D h', Fr h₀ L h' m → News h₀ L h' ((D, W.listOf (kms_pick us lo hi).toArray 0) :: news) → (∀ p ∈ news, p.1 < D) → Q (.ref D) { s with heap := h' })
    (hs : subscripted slice false (.ref l) (.ref s.heap.objs.size) = operate [.ref s.heap.objs.size, .ref l] (getItem (.ref l) (.ref s.heap.objs.size))) (ht : ∀ r, letTemporaryGo value (.ref l) r = pure ()) (hz : us.length ≤ 1000) :
    wpAny (model prog w) A (subscriptTail value slice (.ref l) (.ref s.heap.objs.size)) Q E { s with heap := s.heap.push { cls := .type "slice", data := .fields #[vl, vu, .none] } } :=
  kms_slice_lit F N hl pl pu rfl h hs ht (by rw [List.size_toArray]; exact Nat.le_trans hz (by decide))
theorem unr_go {h₀ h' : Heap} {L : Addr} {its : List (Addr × Obj)} {rest : (Str → Option Value) → List (Addr × Obj) → Prop} {s₁ : Shared} {tk : Nat} {m' : Str → Option Value} (news' : List (Addr × Obj)) (F : Fr h₀ L h' m') (N : News h₀ L h' (its ++ news')) (off : ∀ p ∈ news', ∀ q ∈ its, p.1 ≠ q.1) (r : rest m' news') :
    UnrEndW h₀ L s₁ its rest { s₁ with heap := h', toks := tk } := ⟨_, _, _, _, rfl, F, N, off, r⟩
end Mine
end
section
open PySem PySem.W PyProof.Rows PySem.NumText Builtin.Str PySem.StrLaws
namespace Mine
theorem indices_clip (a b len : Nat) : strSliceIndices (some (a : Int)) (some (b : Int)) 1 len = strSliceIndices (some (a : Int)) (some ((min b len : Nat) : Int)) 1 len := by
  have h2 : ¬ ((b : Int) < 0) := by omega
  have h3 : ¬ (((min b len : Nat) : Int) < 0) := by omega
  have e2 : max (0 : Int) (min (b : Int) (len : Int)) = max (0 : Int) (min ((min b len : Nat) : Int) (len : Int)) := by omega
  simp only [strSliceIndices, h2, h3, if_false, e2, show ((1 : Int) > 0) = True from by simp, if_true]
theorem slice_txt {l : List Nat} {a b : Nat} (ha : a ≤ b) (hl : a ≤ l.length) : Txt.slice (strOf l) (some (a : Int)) (some (b : Int)) = strOf ((l.drop a).take (b - a)) := by
  have e : (strSliceIndices (some (a : Int)) (some (b : Int)) 1 (strOf l).length).filterMap ((strOf l).cps[·]?) = (l.drop a).take (b - a) := by
    rw [indices_clip, sliced_plain _ (by rw [strOf_len]; omega) (by omega)]
    rw [strOf_len]
    show (l.toArray.toList.drop a).take _ = _
    rw [List.toList_toArray]
    rcases Nat.le_total b l.length with h | h
    · rw [Nat.min_eq_left h]
    · rw [Nat.min_eq_right h, List.take_of_length_le (by simp), List.take_of_length_le (by simp; omega)]
  unfold Txt.slice
  split
  · rename_i h
    have h1 : (strSliceIndices (some (a : Int)) (some (b : Int)) 1 (strOf l).length).length = (strOf l).length := by simpa using h
    rw [← e]
    rw [strOf_len] at h1
    have e1 := e
    rw [indices_clip, strSliceIndices_plain (by rw [strOf_len]; omega) (by omega), ← strSliceIndices_plain (a := a) (b := min b (strOf l).length) (len := (strOf l).length) (by rw [strOf_len]; omega) (by omega), ← indices_clip] at e1
    have h2 : (strSliceIndices (some (a : Int)) (some (b : Int)) 1 (strOf l).length).length = min b l.length - a := by
      rw [indices_clip, strSliceIndices_plain (by rw [strOf_len]; omega) (by omega), strOf_len]; simp
    rw [strOf_len] at h2
    rw [e]
    have h3 : min b l.length - a = l.length := by rw [← h2, h1]
    have h4 : a = 0 ∨ l.length = 0 := by omega
    rcases h4 with rfl | h4
    · rw [List.drop_zero, List.take_of_length_le (by omega)]
    · have : l = [] := List.length_eq_zero_iff.mp h4
      subst this; simp
  · rw [e]; rfl
section
variable {prog : Program} {w : World} {A : Around} {E : Value → Shared → Prop} {s : Shared} {h₀ : Heap} {L : Addr} {m : Str → Option Value} {news : List (Addr × Obj)} {value slice : PySem.Expr} {t : Tok} {Q : Value → Shared → Prop}
/-- a cut of a text -/
theorem slice_at {l out : List Nat} {a b : Nat} {i j : Int} {ui uj : Tok} (F : Fr h₀ L s.heap m) (N : News h₀ L s.heap news) (hi : i = (a : Int)) (hj : j = (b : Int)) (hab : a ≤ b) (ha : a ≤ l.length) (hl : l.length < 1000000) (ho : (l.drop a).take (b - a) = out)
    (h : ∀ h' t' k, Fr h₀ L h' m → News h₀ L h' news → Q (.str (strOf out) t') { s with heap := h', toks := k })
    (hs : subscripted slice false (.str (strOf l) t) (.ref s.heap.objs.size) = operate [.ref s.heap.objs.size, .str (strOf l) t] (getItem (.str (strOf l) t) (.ref s.heap.objs.size)) := by with_unfolding_all rfl)
    (ht : ∀ r, letTemporaryGo value (.str (strOf l) t) r = pure () := by intro _; with_unfolding_all rfl) :
    wpAny (model prog w) A (subscriptTail value slice (.str (strOf l) t) (.ref s.heap.objs.size)) Q E { s with heap := s.heap.push { cls := .type "slice", data := .fields #[.int i ui, .int j uj, .none] } } := by
  subst hi hj ho
  refine slice_strN_ss F N (fun h' t' k F' N' => ?_) hs ht (by rw [strOf_len]; show _ ≤ 2 ^ 24; omega)
  rw [slice_txt hab ha]
  exact h h' t' k F' N'
end
end Mine
end
section
namespace Mine
/-- a plain value's text, as a plain value -/
def wordA (a : Atom) : Atom := if h : PyData.strOk (strOf (aTxt a)) = true then .str (strOf (aTxt a)) h else .none
theorem word_good {a : Atom} (h : goodA a) : ∃ ok, wordA a = .str (strOf (aTxt a)) ok := by
  have hok : PyData.strOk (strOf (aTxt a)) = true := by
    obtain ⟨h1, h2, h3⟩ := good_signs h
    simp only [PyData.strOk, strOf, List.all_toArray, List.all_eq_true, decide_eq_true_eq]
    intro c hc
    have := (h3 c hc).2.2.2
    omega
  exact ⟨hok, by rw [wordA, dif_pos hok]⟩
def wordsR (t : Tree) : Row := (flat t).map (Option.map wordA)
theorem wordsR_node (x y z : Tree) : wordsR (.node x y z) = Option.none :: (wordsR x ++ (wordsR y ++ wordsR z)) := by simp [wordsR, flat]
abbrev tupO (a b : Value) : Obj := { cls := .type "tuple", data := .seq #[a, b] }
/-- what the reader does -/
def ReadsT (w : World) (mean : ExcName → Option Value) (mg mb : Str → Option Value) (t : Tree) : Prop :=
  ∀ (dp un : Nat) (fr : Option (List Env)) (gd : Option (List Code)) (s : Shared) (l pre rest : List Nat) (tx tp : Tok) (R : Result → Shared → Prop),
    l = pre ++ (txtT t ++ rest) → (hd.heap_39 w.params).In s.heap → TopAt mean mg mb s.heap → dp + t.size + 10 < recursionLimit → un + 10 * t.size + 100 < cLine → goodT t → (flat t).length < 1000 → l.length < 20000 → (∀ c ∈ rest.head?, c = 44 ∨ c = 41) →
    (∀ q D h' tk t', (∀ a o, s.heap.get? a = some o → h'.get? a = some o) → (h'.get? D = some (tupO q (.int ((pre.length + (txtT t).length : Nat) : Int) t')) ∧ s.heap.get? D = none) →
      RowP (fun a o => h'.get? a = some o ∧ s.heap.get? a = none) q (wordsR t) → R (.ok (.ret (.ref D))) { s with heap := h', toks := tk }) →
    codeAny (model PySem.Challenge.rw_dn0319_05.row.toRowW.prog w) { handled := none, depth := dp, frames := fr, guards := gd, units := un } (.call (.ref 66) ⟨[.str (strOf l) tx, .int (pre.length : Int) tp], []⟩) R s
/-- the objects of a row, as a ledger -/
theorem cells_ledger {G : Addr → Obj → Prop} {us : List Value} {r : Row} (h : Paired (CellP G) us r) : ∃ tl : List (Addr × Obj), (∀ p ∈ tl, G p.1 p.2) ∧ Paired (CellP fun a o => (a, o) ∈ tl) us r := by
  induction h with
  | nil => exact ⟨[], List.forall_mem_nil _, .nil⟩
  | cons p _ ih =>
    obtain ⟨tl, h1, h2⟩ := ih
    obtain ⟨b, ws, k, rfl, g, q⟩ := p
    refine ⟨(b, W.listOf (List.toArray ws) k) :: tl, ?_, .cons ⟨b, ws, k, rfl, .head _, q⟩ (Paired.mono' h2 fun _ _ c => c.mono fun _ _ m => .tail _ m)⟩
    intro p hp
    rcases List.mem_cons.mp hp with rfl | hp
    · exact g
    · exact h1 p hp
theorem row_ledger {G : Addr → Obj → Prop} {v : Value} {r : Row} (h : RowP G v r) : ∃ tl : List (Addr × Obj), (∀ p ∈ tl, G p.1 p.2) ∧ RowP (fun a o => (a, o) ∈ tl) v r := by
  obtain ⟨a, us, k, rfl, g, q⟩ := h
  obtain ⟨tl, h1, h2⟩ := cells_ledger q
  refine ⟨(a, W.listOf (List.toArray us) k) :: tl, ?_, ⟨a, us, k, rfl, .head _, Paired.mono' h2 fun _ _ c => c.mono fun _ _ m => .tail _ m⟩⟩
  intro p hp
  rcases List.mem_cons.mp hp with rfl | hp
  · exact g
  · exact h1 p hp
end Mine
end
section
namespace Mine
local macro_rules | `(tactic| walk_at "mine step") => `(tactic| first | (k_unfold; (try dsimp only)) | (k_end; wrow_close) | walk1 | (dsimp only; walk1) | (leave1; walk_say "STEP leave1"; try dsimp only) | fail "no step")
local macro_rules | `(tactic| walk_at "mine steps") => `(tactic| repeat' walk_at "mine step")
local macro_rules | `(tactic| walk_at "mine to while") => `(tactic| repeat' ((fail_if_success (with_reducible show wpAny _ _ (PySem.exec (PySem.Stmt.While _ _ _ _) _) _ _ _)); walk_at "mine step"))
local macro_rules | `(tactic| walk_at "mine to cut") => `(tactic| repeat' ((fail_if_success (with_reducible show wpAny _ _ (PySem.exec (PySem.Stmt.While _ _ _ _) _) _ _ _)); (fail_if_success (with_reducible show wpAny _ _ (PySem.subscriptTail _ _ _ _) _ _ _)); (fail_if_success (with_reducible show wpAny _ _ (PySem.compareOp _ _ _) _ _ _)); walk_at "mine step"))
local macro_rules | `(tactic| walk_at "mine to cmp") => `(tactic| repeat' ((fail_if_success (with_reducible show wpAny _ _ (PySem.exec (PySem.Stmt.While _ _ _ _) _) _ _ _)); (fail_if_success (with_reducible show wpAny _ _ (PySem.compareOp _ (Value.str _ _) _) _ _ _)); walk_at "mine step"))
theorem in_sep : ∀ c, c < 128 → Txt.contains (Str.ofString ",)") (strOf [c]) = (c == 44 || c == 41) := by decide +kernel
theorem item_txt {l : List Nat} {j c : Nat} (h : l[j]? = some c) : Txt.item (strOf l) (j : Int) = strOf [c] := by
  have := PyProof.Rows.item_meets (x := strOf l) (i := (j : Int)) (n := c) (by omega) (by simpa [strOf] using h)
  exact this
theorem notin_txt {prog : Program} {w : World} {A : Around} {E : Value → Shared → Prop} {s : Shared} {x y : Str} {t u : Tok} {b : Bool} {Q : Value → Shared → Prop} (hb : (!Txt.contains y x) = b) (h : Q (.bool b) s) :
    wpAny (model prog w) A (compareOp .NotIn (.str x t) (.str y u)) Q E s := P.notIn_str (by have : (!(!(Builtin.Str.occurrences y x 0 y.length 1).isEmpty)) = b := hb; rw [this]; exact h)
theorem ne_txt {prog : Program} {w : World} {A : Around} {E : Value → Shared → Prop} {s : Shared} {x y : Str} {t u : Tok} {b : Bool} {Q : Value → Shared → Prop} (hb : (x != y) = b) (h : Q (.bool b) s) :
    wpAny (model prog w) A (compareOp .NotEq (.str x t) (.str y u)) Q E s := ne_str (by rw [hb]; exact h)
theorem headT_of : Str.ofString "_ttinfo(" = strOf headT := by decide +kernel
theorem leaf_back {h₀ h : Heap} {L : Addr} {a : Atom} {s : Shared} {R : Result → Shared → Prop} {n : Int} {n' : Nat} {tn : Tok} {tk : Nat} {D b c : Addr} {tx : Tok} {x : Str} {m : Str → Option Value} (hgood : goodA a) (e : h₀ = s.heap) (F : Fr h₀ L h m)
    (N : News h₀ L h [(D, tupO (.ref b) (.int n tn)), (b, W.listOf #[.ref c] 0), (c, W.listOf #[.str x tx] 0)]) (hx : x = strOf (aTxt a)) (hn : n = (n' : Int))
    (hR : ∀ q D h' tk t', (∀ a o, s.heap.get? a = some o → h'.get? a = some o) → (h'.get? D = some (tupO q (.int (n' : Int) t')) ∧ s.heap.get? D = none) →
      RowP (fun a o => h'.get? a = some o ∧ s.heap.get? a = none) q (wordsR (.leaf a)) → R (.ok (.ret (.ref D))) { s with heap := h', toks := tk }) :
    R (.ok (.ret (.ref D))) { s with heap := h, toks := tk } := by
  subst e hx hn
  obtain ⟨ok, ew⟩ := word_good hgood
  have g : ∀ p ∈ [(D, tupO (.ref b) (.int n' tn)), (b, W.listOf #[.ref c] 0), (c, W.listOf #[.str (strOf (aTxt a)) tx] 0)], h.get? p.1 = some p.2 ∧ s.heap.get? p.1 = none := fun p hp => ⟨(N p hp).1, (N p hp).2.2⟩
  refine hR (.ref b) D h tk tn F.keep (g _ (.head _)) ⟨b, [.ref c], 0, rfl, g _ (.tail _ (.head _)), ?_⟩
  simp only [wordsR, flat, List.map_cons, List.map_nil, Option.map_some, ew]
  exact .cons ⟨c, [_], 0, rfl, g _ (.tail _ (.tail _ (.head _))), .cons (.str _ _ _) .nil⟩ .nil
theorem read_leaf {w : World} {mean : ExcName → Option Value} {mg mb : Str → Option Value} (a : Atom) : ReadsT w mean mg mb (.leaf a) := by
  intro dp un fr gd s l pre rest tx tp R hl X T hd hu hgood hlen1 hlen hrest hR
  simp only [txtT] at hl hR
  replace hgood : goodA a := hgood
  simp only [Tree.size] at hd hu
  have hll : l.length = pre.length + ((aTxt a).length + rest.length) := by rw [hl]; simp
  have hfit : (strOf l).length ≤ 20000 := by rw [strOf_len]; omega
  obtain ⟨g1, g2, g3⟩ := good_signs hgood
  revert X; k_fill; intro X
  k_dflt (refine' enter0 X T.nolimit ?k6 ?k7 ?k8 ?k9 ?kB ?_ ?c2 ?c3 ?c4 ?c5; (case k6 => k_is); (case k7 => k_is); (case k8 => (dsimp only; omega)); (case k9 => exact BindsTo.of_eq rfl); (case c5 => decide); (case kB => exact locs rfl); (case c2 => exact rfl); (case c3 => exact rfl); (case c4 => exact rfl); k_whole; intro h' L' F' N')
  refine wpAny_noRaise ?_
  k_fold
  walk_at "mine to cut"
  have hne : (l.drop pre.length).take (pre.length + 8 - pre.length) ≠ headT := by
    intro e
    obtain ⟨c, q, hc⟩ : ∃ c q, aTxt a = c :: q := by
      cases h : aTxt a with
      | nil => rw [h] at g2; simp at g2
      | cons c q => exact ⟨c, q, rfl⟩
    rw [hl, List.drop_left, hc, Nat.add_sub_cancel_left] at e
    simp only [List.cons_append, List.take_succ_cons, headT, List.cons.injEq] at e
    exact (g3 c (by rw [hc]; exact .head _)).2.2.1 e.1
  rename Fr _ _ _ _ => F1
  rename News _ _ _ _ => N1
  have e1 : Txt.slice (strOf l) (some (pre.length : Int)) (some ((pre.length : Int) + 8)) = strOf ((l.drop pre.length).take (pre.length + 8 - pre.length)) := slice_txt (b := pre.length + 8) (by omega) (by omega)
  k_dflt (refine ne_txt (b := true) (by rw [e1, headT_of, bne_iff_ne]; exact fun e => hne (strOf_inj e)) ?_)
  walk_at "mine to while"
  rename Fr _ _ _ _ => F1
  rename News _ _ _ _ => N1
  k_dflt (refine While_inv (L := L') (h₀ := s.heap) (news := []) (n₀ := (aTxt a).length) (fun n m nw => nw = [] ∧ m (Str.ofString "text") = some (.str (strOf l) tx) ∧ m (Str.ofString "place") = some (.int (pre.length : Int) tp) ∧ n ≤ (aTxt a).length ∧
     HasInt m (Str.ofString "end") ((pre.length + ((aTxt a).length - n) : Nat) : Int)) F1 N1 ?_ ?_ ?_)
  · exact ⟨rfl, rfl, rfl, Nat.le_refl _, .of rfl (by simp)⟩
  · rintro n m1 nw1 h1 tk1 F1 N1 ⟨rfl, e1, e2, hn, ⟨t2, e3⟩⟩
    obtain ⟨j, hj⟩ : ∃ j, j = pre.length + ((aTxt a).length - n) := ⟨_, rfl⟩
    rw [← hj] at e3
    replace F1 := fr_known [(Str.ofString "text", _), (Str.ofString "place", _), (Str.ofString "end", _)] F1 (by simp only [List.forall_mem_cons]; exact ⟨e1, e2, e3, List.forall_mem_nil _⟩)
    simp only [known] at F1
    have hfl : (strOf l).length = l.length := strOf_len l
    cases n with
    | succ n =>
      obtain ⟨c, hc⟩ : ∃ c, (aTxt a)[(aTxt a).length - (n + 1)]? = some c := ⟨_, List.getElem?_eq_getElem (by omega)⟩
      have hlj : l[j]? = some c := by
        rw [hl, hj, List.getElem?_append_right (by omega), Nat.add_sub_cancel_left, List.getElem?_append_left (by omega), hc]
      obtain ⟨c1, c2, _, c3⟩ := g3 c (List.mem_of_getElem? hc)
      walk_at "mine to cmp"
      k_dflt (refine notin_txt (b := true) (by rw [item_txt hlj, in_sep c c3]; simp [c1, c2]) ?_)
      walk_at "mine to cmp"
      rename Fr _ _ _ _ => F3
      refine WhileStep.intro (n' := n) F3 News.nil (by omega) ⟨rfl, rfl, rfl, by omega, .of rfl (by omega)⟩
    | zero =>
      have e4 : Txt.slice (strOf l) (some (pre.length : Int)) (some (j : Int)) = strOf (aTxt a) := by
        rw [slice_txt (by omega) (by omega), hj, hl, List.drop_left, Nat.sub_zero, Nat.add_sub_cancel_left, List.take_left]
      cases rest with
      | nil =>
        simp only [List.length_nil] at hll
        walk_at "mine to cmp"
        rename Fr _ _ _ _ => F4
        rename News _ _ _ _ => N4
        refine leaf_back (s := s) (n' := pre.length + (aTxt a).length) hgood rfl F4 N4 e4 ?_ hR
        omega
      | cons c r =>
        simp only [List.length_cons] at hll
        have hlj : l[j]? = some c := by
          rw [hl, hj, List.getElem?_append_right (by omega), Nat.add_sub_cancel_left, List.getElem?_append_right (by omega)]
          simp
        walk_at "mine to cmp"
        have hc := hrest c rfl
        k_dflt (refine notin_txt (b := false) (by rw [item_txt hlj, in_sep c (by omega)]; rcases hc with rfl | rfl <;> rfl) ?_)
        walk_at "mine to cmp"
        rename Fr _ _ _ _ => F4
        rename News _ _ _ _ => N4
        refine leaf_back (s := s) (n' := pre.length + (aTxt a).length) hgood rfl F4 N4 e4 ?_ hR
        omega
  · exact PassesOwn.never
end Mine
end
section
namespace Mine
local macro_rules | `(tactic| walk_at "mine step") => `(tactic| first | (k_unfold; (try dsimp only)) | (k_end; wrow_close) | walk1 | (dsimp only; walk1) | (leave1; walk_say "STEP leave1"; try dsimp only) | fail "no step")
local macro_rules | `(tactic| walk_at "mine to cmp") => `(tactic| repeat' ((fail_if_success (with_reducible show wpAny _ _ (PySem.exec (PySem.Stmt.For _ _ _ _ _) _) _ _ _)); (fail_if_success (with_reducible show wpAny _ _ (PySem.call (Value.ref _) _ _) _ _ _)); (fail_if_success (with_reducible show wpAny _ _ (PySem.compareOp _ (Value.str _ _) _) _ _ _)); walk_at "mine step"))
local macro_rules | `(tactic| walk_at "mine to iter") => `(tactic| repeat' ((fail_if_success (with_reducible show wpAny _ _ (PySem.pyIter _) _ _ _)); walk_at "mine step"))
local macro_rules | `(tactic| k_mem) => `(tactic| assumption)
local macro_rules | `(tactic| walk_at "binaryOp Add ref ref") => `(tactic| (k_here; k_dflt (refine' add_K ?k1 ?k2 ?k3 ?k4 ?_ ?k5; (case k1 => k_asm); (case k2 => k_asm); (case k3 => exact ⟨_, News.get (by k_asm) (by k_mem), rfl, _, rfl⟩); (case k4 => exact ⟨_, News.get (by k_asm) (by k_mem), rfl, _, rfl⟩); (case k5 => (refine Nat.le_trans (m := 9000) ?_ (by decide); (try simp only [List.size_toArray, List.length_append]); omega))); intro D' h' F' N' l1; (try k_lt l1); (try k_sweep)))
theorem use_read {w : World} {mean : ExcName → Option Value} {mg mb : Str → Option Value} {t : Tree} {dp un : Nat} {fr : Option (List Env)} {gd : Option (List Code)} {h₀ : Heap} {L : Addr} {m : Str → Option Value} {news : List (Addr × Obj)} {s : Shared} {Q E : Value → Shared → Prop} {l pre rest : List Nat} {tx tp : Tok}
    (ht : ReadsT w mean mg mb t) (X : (hd.heap_39 w.params).In h₀) (T : TopAt mean mg mb h₀) (hd : dp + t.size + 10 < recursionLimit) (hu : un + 10 * t.size + 100 < cLine) (F : Fr h₀ L s.heap m) (N : News h₀ L s.heap news)
    (hl : l = pre ++ (txtT t ++ rest)) (hgood : goodT t) (hlen : (flat t).length < 1000) (hll : l.length < 20000) (hrest : ∀ c ∈ rest.head?, c = 44 ∨ c = 41)
    (k : ∀ a D us tl kp t' h' tk, Fr h₀ L h' m → News h₀ L h' ((D, tupO (.ref a) (.int ((pre.length + (txtT t).length : Nat) : Int) t')) :: (a, W.listOf (List.toArray us) kp) :: (tl ++ news)) → (∀ p ∈ tl, ∀ q ∈ news, p.1 ≠ q.1) → (∀ q ∈ news, D ≠ q.1) → (∀ q ∈ news, a ≠ q.1) → Paired (CellP fun a o => (a, o) ∈ tl) us (wordsR t) → Q (.ref D) { s with heap := h', toks := tk }) :
    wpAny (model PySem.Challenge.rw_dn0319_05.row.toRowW.prog w) { handled := none, depth := dp, frames := fr, guards := gd, units := un } (call (.ref 66) [.str (strOf l) tx, .int (pre.length : Int) tp]) Q E s := by
  refine wpAny_call (ht dp un fr gd s l pre rest tx tp _ hl (X.keeps F.keep) (T.keeps F.keep) hd hu hgood hlen hll hrest fun q D h' tk t' hk hD hrow => ?_)
  obtain ⟨a, us, kp, rfl, ga, hc⟩ := hrow
  obtain ⟨tl, h1, h2⟩ := cells_ledger hc
  obtain ⟨N', off⟩ := news_more (tl := (D, tupO (.ref a) (.int ((pre.length + (txtT t).length : Nat) : Int) t')) :: (a, W.listOf (List.toArray us) kp) :: tl) F N hk (by
    intro p hp
    rcases List.mem_cons.mp hp with rfl | hp
    · exact hD
    · rcases List.mem_cons.mp hp with rfl | hp
      · exact ga
      · exact h1 p hp)
  exact k a D us tl kp t' h' tk (F.keeps hk) N' (fun p hp => off p (.tail _ (.tail _ hp))) (fun q hq => off _ (.head _) q hq) (fun q hq => off _ (.tail _ (.head _)) q hq) h2
theorem start_abs {h₀ h : Heap} {L I aL aR aC : Addr} {oI oL : Obj} (N : News h₀ L h [(I, oI), (aL, oL), (aR, W.listOf #[.ref aC] 0), (aC, W.listOf #[] 0)]) (hI : ∀ p ∈ [(aL, oL), (aR, W.listOf #[.ref aC] 0), (aC, W.listOf #[] 0)], p.1 < I) :
    ∃ vs old, News h₀ L h ((I, oI) :: (aL, oL) :: (aR, W.listOf (List.toArray vs) 0) :: old) ∧ Paired (CellP fun a o => (a, o) ∈ old) vs [Option.none] ∧ (∀ p ∈ (aL, oL) :: (aR, W.listOf (List.toArray vs) 0) :: old, p.1 ≠ I) ∧ vs.length ≤ 1 :=
  ⟨[.ref aC], _, N, .cons ⟨aC, [], 0, rfl, .head _, .nil⟩ .nil, fun p hp => Nat.ne_of_lt (hI p hp), by simp⟩
theorem memR_of {h₀ h : Heap} {L : Addr} {D a i lo r : Addr × Obj} {tl old : List (Addr × Obj)} (_N : News h₀ L h (D :: a :: (tl ++ i :: lo :: r :: old))) : r ∈ D :: a :: (tl ++ i :: lo :: r :: old) :=
  .tail _ (.tail _ (List.mem_append_right _ (.tail _ (.tail _ (.head _)))))
theorem memP_of {h₀ h : Heap} {L : Addr} {D a : Addr × Obj} {old : List (Addr × Obj)} (_N : News h₀ L h (D :: a :: old)) : a ∈ D :: a :: old := .tail _ (.head _)
theorem turn_regroup {h₀ h : Heap} {L : Addr} {e D a i lo r : Addr × Obj} {tl old : List (Addr × Obj)} (N : News h₀ L h (e :: D :: a :: (tl ++ i :: lo :: r :: old))) (offI : ∀ p ∈ lo :: r :: old, p.1 ≠ i.1) (off : ∀ p ∈ tl, ∀ q ∈ i :: lo :: r :: old, p.1 ≠ q.1) (he : e.1 ≠ i.1) :
    News h₀ L h ([i] ++ (lo :: e :: (tl ++ old))) ∧ (∀ p ∈ lo :: e :: (tl ++ old), ∀ q ∈ [i], p.1 ≠ q.1) ∧ ∀ p ∈ lo :: e :: (tl ++ old), p.1 ≠ i.1 := by
  have k : ∀ p ∈ lo :: e :: (tl ++ old), p.1 ≠ i.1 := by
    intro p hp
    simp only [List.mem_cons, List.mem_append] at hp
    rcases hp with rfl | rfl | hp | hp
    · exact offI _ (.head _)
    · exact he
    · exact off p hp _ (.head _)
    · exact offI _ (.tail _ (.tail _ hp))
  refine ⟨news_sub N fun p hp => ?_, fun p hp q hq => by rw [List.mem_singleton.mp hq]; exact k p hp, k⟩
  simp only [List.mem_cons, List.mem_append, List.mem_nil_iff, or_false] at hp ⊢
  rcases hp with rfl | rfl | rfl | hp | hp
  · exact .inr (.inr (.inr (.inr (.inl rfl))))
  · exact .inr (.inr (.inr (.inr (.inr (.inl rfl)))))
  · exact .inl rfl
  · exact .inr (.inr (.inr (.inl hp)))
  · exact .inr (.inr (.inr (.inr (.inr (.inr (.inr hp))))))
theorem bne_of_eq {x y : Str} (h : x = y) : (x != y) = false := by rw [h]; simp
theorem sep_of : Str.ofString ", " = strOf [44, 32] := by decide +kernel
theorem close_of : Str.ofString ")" = strOf [41] := by decide +kernel
theorem next_abs {h₀ h : Heap} {L : Addr} {i lo : Addr × Obj} {I aR : Addr} {vs us : List Value} {tl old : List (Addr × Obj)} {r r' : Row} {n : Nat} (N : News h₀ L h (i :: lo :: (aR, W.listOf (vs ++ us).toArray 0) :: (tl ++ old))) (hc : Paired (CellP fun a o => (a, o) ∈ tl ++ old) (vs ++ us) (r ++ r')) (off : ∀ p ∈ lo :: (aR, W.listOf (vs ++ us).toArray 0) :: (tl ++ old), p.1 ≠ I) (hn : vs.length + us.length ≤ n) :
    ∃ vs2 old2 r2, News h₀ L h (i :: lo :: (aR, W.listOf (List.toArray vs2) 0) :: old2) ∧ Paired (CellP fun a o => (a, o) ∈ old2) vs2 r2 ∧ (∀ p ∈ lo :: (aR, W.listOf (List.toArray vs2) 0) :: old2, p.1 ≠ I) ∧ r2 = r ++ r' ∧ vs2.length ≤ n :=
  ⟨_, _, _, N, hc, off, rfl, by rw [List.length_append]; exact hn⟩
theorem allLt_get {D : Addr} : ∀ {tl : List (Addr × Obj)} {i : Addr × Obj} {old : List (Addr × Obj)}, AllLt D (tl ++ i :: old) → i.1 < D
  | [], _, _, h => h.1
  | _ :: tl, _, _, h => allLt_get (tl := tl) h.2
theorem node_back {h₀ h : Heap} {L : Addr} {t : Tree} {s : Shared} {R : Result → Shared → Prop} {n : Int} {n' : Nat} {tn : Tok} {tk : Nat} {D b : Addr} {lo : Addr × Obj} {old : List (Addr × Obj)} {vs : List Value} {r : Row} {m : Str → Option Value} (e : h₀ = s.heap) (F : Fr h₀ L h m)
    (N : News h₀ L h ((D, tupO (.ref b) (.int n tn)) :: lo :: (b, W.listOf vs.toArray 0) :: old)) (hc : Paired (CellP fun a o => (a, o) ∈ old) vs r) (hr : r = wordsR t) (hn : n = (n' : Int))
    (hR : ∀ q D h' tk t', (∀ a o, s.heap.get? a = some o → h'.get? a = some o) → (h'.get? D = some (tupO q (.int (n' : Int) t')) ∧ s.heap.get? D = none) →
      RowP (fun a o => h'.get? a = some o ∧ s.heap.get? a = none) q (wordsR t) → R (.ok (.ret (.ref D))) { s with heap := h', toks := tk }) :
    R (.ok (.ret (.ref D))) { s with heap := h, toks := tk } := by
  subst e hr hn
  have g : ∀ p ∈ (D, tupO (.ref b) (.int n' tn)) :: lo :: (b, W.listOf vs.toArray 0) :: old, h.get? p.1 = some p.2 ∧ s.heap.get? p.1 = none := fun p hp => ⟨(N p hp).1, (N p hp).2.2⟩
  exact hR (.ref b) D h tk tn F.keep (g _ (.head _)) ⟨b, vs, 0, rfl, g _ (.tail _ (.tail _ (.head _))), Paired.mono' hc fun _ _ q => q.mono fun a o m => g _ (.tail _ (.tail _ (.tail _ m)))⟩
theorem read_node {w : World} {mean : ExcName → Option Value} {mg mb : Str → Option Value} {x y z : Tree} (ix : ReadsT w mean mg mb x) (iy : ReadsT w mean mg mb y) (iz : ReadsT w mean mg mb z) : ReadsT w mean mg mb (.node x y z) := by
  intro dp un fr gd s l pre rest tx tp R hl X T hd hu hgood hlen1 hlen hrest hR
  simp only [txtT] at hl
  simp only [Tree.size] at hd hu
  simp only [flat, List.length_cons, List.length_append] at hlen1
  obtain ⟨gx, gy, gz⟩ := hgood
  obtain ⟨px, hpx⟩ : ∃ px, px = pre ++ headT := ⟨_, rfl⟩
  obtain ⟨py, hpy⟩ : ∃ py, py = px ++ (txtT x ++ [44, 32]) := ⟨_, rfl⟩
  obtain ⟨pz, hpz⟩ : ∃ pz, pz = py ++ (txtT y ++ [44, 32]) := ⟨_, rfl⟩
  obtain ⟨pe, hpe⟩ : ∃ pe, pe = pz ++ (txtT z ++ [41]) := ⟨_, rfl⟩
  have hlx : l = px ++ (txtT x ++ (44 :: 32 :: (txtT y ++ (44 :: 32 :: (txtT z ++ (41 :: rest)))))) := by rw [hl, hpx]; simp
  have hly : l = py ++ (txtT y ++ (44 :: 32 :: (txtT z ++ (41 :: rest)))) := by rw [hlx, hpy]; simp
  have hlz : l = pz ++ (txtT z ++ (41 :: rest)) := by rw [hly, hpz]; simp
  have hle : l = pe ++ rest := by rw [hlz, hpe]; simp
  have npx : px.length = pre.length + 8 := by rw [hpx]; simp [headT]
  have npy : py.length = px.length + (txtT x).length + 2 := by rw [hpy]; simp; omega
  have npz : pz.length = py.length + (txtT y).length + 2 := by rw [hpz]; simp; omega
  have npe : pe.length = pz.length + (txtT z).length + 1 := by rw [hpe]; simp; omega
  have nle : l.length = pe.length + rest.length := by rw [hle]; simp
  have hfit : (strOf l).length ≤ 20000 := by rw [strOf_len]; omega
  have e1 : Txt.slice (strOf l) (some (pre.length : Int)) (some ((pre.length : Int) + 8)) = strOf headT := by
    have := slice_txt (l := l) (a := pre.length) (b := pre.length + 8) (by omega) (by omega)
    rw [hl, List.drop_left, Nat.add_sub_cancel_left] at this
    rw [hl]; exact this
  have e2 : Txt.slice (strOf l) (some ((px.length + (txtT x).length : Nat) : Int)) (some (((px.length + (txtT x).length : Nat) : Int) + 2)) = strOf [44, 32] := by
    have := slice_txt (l := l) (a := px.length + (txtT x).length) (b := px.length + (txtT x).length + 2) (by omega) (by omega)
    rw [show l.drop (px.length + (txtT x).length) = (44 :: 32 :: (txtT y ++ (44 :: 32 :: (txtT z ++ (41 :: rest))))) by rw [hlx, ← List.drop_drop, List.drop_left, List.drop_left], Nat.add_sub_cancel_left] at this
    exact this
  have e3 : Txt.slice (strOf l) (some ((py.length + (txtT y).length : Nat) : Int)) (some (((py.length + (txtT y).length : Nat) : Int) + 2)) = strOf [44, 32] := by
    have := slice_txt (l := l) (a := py.length + (txtT y).length) (b := py.length + (txtT y).length + 2) (by omega) (by omega)
    rw [show l.drop (py.length + (txtT y).length) = (44 :: 32 :: (txtT z ++ (41 :: rest))) by rw [hly, ← List.drop_drop, List.drop_left, List.drop_left], Nat.add_sub_cancel_left] at this
    exact this
  have e4 : Txt.slice (strOf l) (some ((pz.length + (txtT z).length : Nat) : Int)) (some (((pz.length + (txtT z).length : Nat) : Int) + 1)) = strOf [41] := by
    have := slice_txt (l := l) (a := pz.length + (txtT z).length) (b := pz.length + (txtT z).length + 1) (by omega) (by omega)
    rw [show l.drop (pz.length + (txtT z).length) = (41 :: rest) by rw [hlz, ← List.drop_drop, List.drop_left, List.drop_left], Nat.add_sub_cancel_left] at this
    exact this
  clear hl hpx hpy hpz hpe
  revert X; k_fill; intro X
  k_dflt (refine' enter0 X T.nolimit ?k6 ?k7 ?k8 ?k9 ?kB ?_ ?c2 ?c3 ?c4 ?c5; (case k6 => k_is); (case k7 => k_is); (case k8 => (dsimp only; omega)); (case k9 => exact BindsTo.of_eq rfl); (case c5 => decide); (case kB => exact locs rfl); (case c2 => exact rfl); (case c3 => exact rfl); (case c4 => exact rfl); k_whole; intro h' L' F' N')
  refine wpAny_noRaise ?_
  k_fold
  walk_at "mine to cmp"
  k_dflt (refine ne_txt (b := false) (by rw [e1, headT_of]; simp) ?_)
  walk_at "mine to cmp"
  rename Fr _ _ _ _ => F1
  rename News _ _ _ _ => N1
  obtain ⟨tq, ep⟩ := fr_int (x := Str.ofString "place") (j := (px.length : Int)) F1 rfl (by omega)
  replace F1 := fr_cut [(Str.ofString "text", .str (strOf l) tx), (Str.ofString "place", _), (Str.ofString "row", _)] F1 (by simp only [List.forall_mem_cons]; exact ⟨rfl, ep, rfl, List.forall_mem_nil _⟩)
  obtain ⟨m1, F1⟩ := F1
  simp only [known] at F1
  clear ep
  k_dflt (refine For_turns F1 ?_ (fun _ => rfl) PassesOwn.never)
  walk_at "mine to iter"
  rename Fr _ _ _ _ => F2
  rename News _ _ _ _ => N2
  k_dflt (refine iter_listTurns (vs := [_, _, _]) rfl F2 N2 (.head _) rfl rfl ?_)
  intro I2 hI2
  refine ItemsRest.val ?_
  intro hq1 tq1 Fq1 o1 ho1 Nq1
  simp only [List.cons_append, List.nil_append] at Nq1
  walk_at "mine to cmp"
  rename Fr _ _ _ _ => F3
  rename News _ _ _ _ => N3
  obtain ⟨vs1, old1, N51, hcells1, offI1, hvl1⟩ := start_abs N3 hI2
  obtain ⟨r1, hr1⟩ : ∃ r : Row, r = [Option.none] := ⟨_, rfl⟩
  rw [← hr1] at hcells1
  clear N3 Nq1 Fq1
  k_dflt (refine use_read (dp := dp + 1) (un := un + 3) ix X T (by omega) (by omega) F3 N51 hlx gx (by omega) hlen (by intro c hc; simp at hc; omega) ?_)
  intro a1 D1 us1 tl1 kp1 tn1 h1 tk1 F4 N4 off1 offD1 offa1 hc1
  clear F3 N51
  have hul1 : us1.length ≤ 999 := by have := Paired.len hc1; simp only [wordsR, List.length_map] at this; omega
  have memR1 := memR_of N4
  have memP1 := memP_of N4
  walk_at "mine to cmp"
  k_dflt (refine ne_txt (b := false) (by rw [sep_of]; exact bne_of_eq e2) ?_)
  walk_at "mine to cmp"
  rename Fr _ _ _ _ => F6
  rename News _ _ _ _ => N6
  rename _ < _ ∧ _ < _ ∧ AllLt _ _ => hlt1
  obtain ⟨tt1, ep1⟩ := fr_int (x := Str.ofString "place") (j := (py.length : Int)) F6 rfl (by omega)
  obtain ⟨m1, F7⟩ := fr_cut [(Str.ofString "text", .str (strOf l) tx), (Str.ofString "place", _), (Str.ofString "row", _)] F6 (by simp only [List.forall_mem_cons]; exact ⟨rfl, ep1, rfl, List.forall_mem_nil _⟩)
  simp only [known] at F7
  obtain ⟨N7, offu1, offn1⟩ := turn_regroup N6 offI1 off1 (Nat.ne_of_gt (allLt_get hlt1.2.2))
  have hcn1 := paired_append (Paired.mono' hcells1 fun _ _ q => q.mono fun a o m => List.mem_append_right tl1 m) (Paired.mono' hc1 fun _ _ q => q.mono fun a o m => List.mem_append_left old1 m)
  clear F6 N6 ep1 memR1 memP1
  refine unr_go _ F7 N7 offu1 ⟨⟨.head _, trivial⟩, ?_⟩
  refine ItemsRest.val ?_
  intro hq2 tq2 Fq2 o2 ho2 Nq2
  simp only [List.cons_append, List.nil_append] at Nq2
  walk_at "mine to cmp"
  rename Fr _ _ _ _ => F3
  rename News _ _ _ _ => N3
  obtain ⟨vs2, old2, r2, N52, hcells2, offI2, hr2, hvl2⟩ := next_abs N3 hcn1 offn1 (n := 2000) (by omega)
  clear N3 Nq2 Fq2
  k_dflt (refine use_read (dp := dp + 1) (un := un + 3) iy X T (by omega) (by omega) F3 N52 hly gy (by omega) hlen (by intro c hc; simp at hc; omega) ?_)
  intro a2 D2 us2 tl2 kp2 tn2 h2 tk2 F4 N4 off2 offD2 offa2 hc2
  clear F3 N52
  have hul2 : us2.length ≤ 999 := by have := Paired.len hc2; simp only [wordsR, List.length_map] at this; omega
  have memR2 := memR_of N4
  have memP2 := memP_of N4
  walk_at "mine to cmp"
  k_dflt (refine ne_txt (b := false) (by rw [sep_of]; exact bne_of_eq e3) ?_)
  walk_at "mine to cmp"
  rename Fr _ _ _ _ => F6
  rename News _ _ _ _ => N6
  rename _ < _ ∧ _ < _ ∧ AllLt _ _ => hlt2
  obtain ⟨tt2, ep2⟩ := fr_int (x := Str.ofString "place") (j := (pz.length : Int)) F6 rfl (by omega)
  obtain ⟨m2, F7⟩ := fr_cut [(Str.ofString "text", .str (strOf l) tx), (Str.ofString "place", _), (Str.ofString "row", _)] F6 (by simp only [List.forall_mem_cons]; exact ⟨rfl, ep2, rfl, List.forall_mem_nil _⟩)
  simp only [known] at F7
  obtain ⟨N7, offu2, offn2⟩ := turn_regroup N6 offI2 off2 (Nat.ne_of_gt (allLt_get hlt2.2.2))
  have hcn2 := paired_append (Paired.mono' hcells2 fun _ _ q => q.mono fun a o m => List.mem_append_right tl2 m) (Paired.mono' hc2 fun _ _ q => q.mono fun a o m => List.mem_append_left old2 m)
  clear F6 N6 ep2 memR2 memP2
  refine unr_go _ F7 N7 offu2 ⟨⟨.head _, trivial⟩, ?_⟩
  refine ItemsRest.val ?_
  intro hq3 tq3 Fq3 o3 ho3 Nq3
  simp only [List.cons_append, List.nil_append] at Nq3
  walk_at "mine to cmp"
  rename Fr _ _ _ _ => F3
  rename News _ _ _ _ => N3
  obtain ⟨vs3, old3, r3, N53, hcells3, offI3, hr3, hvl3⟩ := next_abs N3 hcn2 offn2 (n := 3000) (by omega)
  clear N3 Nq3 Fq3
  k_dflt (refine use_read (dp := dp + 1) (un := un + 3) iz X T (by omega) (by omega) F3 N53 hlz gz (by omega) hlen (by intro c hc; simp at hc; omega) ?_)
  intro a3 D3 us3 tl3 kp3 tn3 h3 tk3 F4 N4 off3 offD3 offa3 hc3
  clear F3 N53
  have hul3 : us3.length ≤ 999 := by have := Paired.len hc3; simp only [wordsR, List.length_map] at this; omega
  have memR3 := memR_of N4
  have memP3 := memP_of N4
  walk_at "mine to cmp"
  k_dflt (refine ne_txt (b := false) (by rw [close_of]; exact bne_of_eq e4) ?_)
  walk_at "mine to cmp"
  rename Fr _ _ _ _ => F6
  rename News _ _ _ _ => N6
  rename _ < _ ∧ _ < _ ∧ AllLt _ _ => hlt3
  obtain ⟨tt3, ep3⟩ := fr_int (x := Str.ofString "place") (j := (pe.length : Int)) F6 rfl (by omega)
  obtain ⟨m3, F7⟩ := fr_cut [(Str.ofString "text", .str (strOf l) tx), (Str.ofString "place", _), (Str.ofString "row", _)] F6 (by simp only [List.forall_mem_cons]; exact ⟨rfl, ep3, rfl, List.forall_mem_nil _⟩)
  simp only [known] at F7
  obtain ⟨N7, offu3, offn3⟩ := turn_regroup N6 offI3 off3 (Nat.ne_of_gt (allLt_get hlt3.2.2))
  have hcn3 := paired_append (Paired.mono' hcells3 fun _ _ q => q.mono fun a o m => List.mem_append_right tl3 m) (Paired.mono' hc3 fun _ _ q => q.mono fun a o m => List.mem_append_left old3 m)
  clear F6 N6 ep3 memR3 memP3
  refine unr_go _ F7 N7 offu3 ⟨⟨.head _, trivial⟩, ?_⟩
  refine ItemsRest.zero ?_
  intro hz tz Fz Nz
  dsimp only
  walk_at "mine to cmp"
  rename Fr _ _ _ _ => F8
  rename News _ _ _ _ => N8
  refine node_back (s := s) (t := .node x y z) (n' := pre.length + (txtT (.node x y z)).length) rfl F8 N8 hcn3 ?_ ?_ hR
  · rw [hr3, hr2, hr1, wordsR_node]; simp
  · simp only [txtT, headT, List.length_append, List.length_cons, List.length_nil]; omega
theorem read_tree {w : World} {mean : ExcName → Option Value} {mg mb : Str → Option Value} : ∀ t : Tree, ReadsT w mean mg mb t := by
  intro t
  induction t with
  | leaf a => exact read_leaf a
  | node x y z ix iy iz => exact read_node ix iy iz
end Mine
end
section
namespace Mine
local macro_rules | `(tactic| walk_at "mine step") => `(tactic| first | (k_unfold; (try dsimp only)) | (k_end; wrow_close) | walk1 | (dsimp only; walk1) | (leave1; walk_say "STEP leave1"; try dsimp only) | fail "no step")
local macro_rules | `(tactic| walk_at "mine to cmp") => `(tactic| repeat' ((fail_if_success (with_reducible show wpAny _ _ (PySem.compareOp _ (Value.str _ _) _) _ _ _)); walk_at "mine step"))
local macro_rules | `(tactic| walk_at "mine steps") => `(tactic| repeat' walk_at "mine step")
/-- the plain values that the law builds of -/
def plainA (a : Atom) : Prop := (∃ i, a = .int i ∧ i.natAbs < 10 ^ 12) ∨ a = .bool true ∨ a = .none ∨ ∃ s ok, a = .str s ok ∧ (s = strOf [65] ∨ s = strOf [67, 69, 84] ∨ s = strOf [90, 117, 108, 117])
theorem plain_good {a : Atom} (h : plainA a) : goodA a := by
  rcases h with h | h | h | ⟨s, ok, e, h⟩
  · exact .inl h
  · exact .inr (.inl h)
  · exact .inr (.inr (.inl h))
  · refine .inr (.inr (.inr ⟨s, ok, e, ?_⟩))
    rcases h with h | h | h
    · exact .inl h
    · exact .inr (.inl h)
    · exact .inr (.inr (.inl h))
theorem worth_A {w : World} {mean : ExcName → Option Value} {mg mb : Str → Option Value} {dp un : Nat} {fr : Option (List Env)} {gd : Option (List Code)} {s : Shared} {t : Tok} {R : Result → Shared → Prop}
    (X : (hd.heap_39 w.params).In s.heap) (T : TopAt mean mg mb s.heap) (hd : dp + 10 < recursionLimit) (hu : un + 100 < cLine)
    (hR : ∀ (t : Tok) h' tk, (∀ a o, s.heap.get? a = some o → h'.get? a = some o) → R (.ok (.ret (.str (Str.ofString "A") t))) { s with heap := h', toks := tk }) :
    codeAny (model PySem.Challenge.rw_dn0319_05.row.toRowW.prog w) { handled := none, depth := dp, frames := fr, guards := gd, units := un } (.call (.ref 73) ⟨[.str (Str.ofString "A") t], []⟩) R s := by
  revert X; k_fill; intro X
  k_dflt (refine' enter0 X T.nolimit ?k6 ?k7 ?k8 ?k9 ?kB ?_ ?c2 ?c3 ?c4 ?c5; (case k6 => k_is); (case k7 => k_is); (case k8 => (dsimp only; omega)); (case k9 => exact BindsTo.of_eq rfl); (case c5 => decide); (case kB => exact locs rfl); (case c2 => exact rfl); (case c3 => exact rfl); (case c4 => exact rfl); k_whole; intro h' L' F' N')
  refine wpAny_noRaise ?_
  k_fold
  walk_at "mine to cmp"
  walk_at "mine steps"
  · rename Fr _ _ _ _ => F5
    exact hR _ _ _ F5.keep
  · rename (Spec.lookup _ _).isSome = false => hno
    simp [strData, Spec.lookup, Spec.same] at hno
theorem worth_CET {w : World} {mean : ExcName → Option Value} {mg mb : Str → Option Value} {dp un : Nat} {fr : Option (List Env)} {gd : Option (List Code)} {s : Shared} {t : Tok} {R : Result → Shared → Prop}
    (X : (hd.heap_39 w.params).In s.heap) (T : TopAt mean mg mb s.heap) (hd : dp + 10 < recursionLimit) (hu : un + 100 < cLine)
    (hR : ∀ (t : Tok) h' tk, (∀ a o, s.heap.get? a = some o → h'.get? a = some o) → R (.ok (.ret (.str (Str.ofString "CET") t))) { s with heap := h', toks := tk }) :
    codeAny (model PySem.Challenge.rw_dn0319_05.row.toRowW.prog w) { handled := none, depth := dp, frames := fr, guards := gd, units := un } (.call (.ref 73) ⟨[.str (Str.ofString "CET") t], []⟩) R s := by
  revert X; k_fill; intro X
  k_dflt (refine' enter0 X T.nolimit ?k6 ?k7 ?k8 ?k9 ?kB ?_ ?c2 ?c3 ?c4 ?c5; (case k6 => k_is); (case k7 => k_is); (case k8 => (dsimp only; omega)); (case k9 => exact BindsTo.of_eq rfl); (case c5 => decide); (case kB => exact locs rfl); (case c2 => exact rfl); (case c3 => exact rfl); (case c4 => exact rfl); k_whole; intro h' L' F' N')
  refine wpAny_noRaise ?_
  k_fold
  walk_at "mine to cmp"
  walk_at "mine steps"
  · rename Fr _ _ _ _ => F5
    exact hR _ _ _ F5.keep
  · rename (Spec.lookup _ _).isSome = false => hno
    have d0 : (Str.ofString "A" == Str.ofString "CET") = false := by decide +kernel
    simp [strData, Spec.lookup, Spec.same, d0] at hno
theorem worth_None {w : World} {mean : ExcName → Option Value} {mg mb : Str → Option Value} {dp un : Nat} {fr : Option (List Env)} {gd : Option (List Code)} {s : Shared} {t : Tok} {R : Result → Shared → Prop}
    (X : (hd.heap_39 w.params).In s.heap) (T : TopAt mean mg mb s.heap) (hd : dp + 10 < recursionLimit) (hu : un + 100 < cLine)
    (hR : ∀ (t : Tok) h' tk, (∀ a o, s.heap.get? a = some o → h'.get? a = some o) → R (.ok (.ret (.none))) { s with heap := h', toks := tk }) :
    codeAny (model PySem.Challenge.rw_dn0319_05.row.toRowW.prog w) { handled := none, depth := dp, frames := fr, guards := gd, units := un } (.call (.ref 73) ⟨[.str (Str.ofString "None") t], []⟩) R s := by
  revert X; k_fill; intro X
  k_dflt (refine' enter0 X T.nolimit ?k6 ?k7 ?k8 ?k9 ?kB ?_ ?c2 ?c3 ?c4 ?c5; (case k6 => k_is); (case k7 => k_is); (case k8 => (dsimp only; omega)); (case k9 => exact BindsTo.of_eq rfl); (case c5 => decide); (case kB => exact locs rfl); (case c2 => exact rfl); (case c3 => exact rfl); (case c4 => exact rfl); k_whole; intro h' L' F' N')
  refine wpAny_noRaise ?_
  k_fold
  walk_at "mine to cmp"
  walk_at "mine steps"
  · rename Fr _ _ _ _ => F5
    exact hR 0 _ _ F5.keep
  · rename (Spec.lookup _ _).isSome = false => hno
    have d0 : (Str.ofString "A" == Str.ofString "None") = false := by decide +kernel
    have d1 : (Str.ofString "CET" == Str.ofString "None") = false := by decide +kernel
    simp [strData, Spec.lookup, Spec.same, d0, d1] at hno
theorem worth_True {w : World} {mean : ExcName → Option Value} {mg mb : Str → Option Value} {dp un : Nat} {fr : Option (List Env)} {gd : Option (List Code)} {s : Shared} {t : Tok} {R : Result → Shared → Prop}
    (X : (hd.heap_39 w.params).In s.heap) (T : TopAt mean mg mb s.heap) (hd : dp + 10 < recursionLimit) (hu : un + 100 < cLine)
    (hR : ∀ (t : Tok) h' tk, (∀ a o, s.heap.get? a = some o → h'.get? a = some o) → R (.ok (.ret (.bool true))) { s with heap := h', toks := tk }) :
    codeAny (model PySem.Challenge.rw_dn0319_05.row.toRowW.prog w) { handled := none, depth := dp, frames := fr, guards := gd, units := un } (.call (.ref 73) ⟨[.str (Str.ofString "True") t], []⟩) R s := by
  revert X; k_fill; intro X
  k_dflt (refine' enter0 X T.nolimit ?k6 ?k7 ?k8 ?k9 ?kB ?_ ?c2 ?c3 ?c4 ?c5; (case k6 => k_is); (case k7 => k_is); (case k8 => (dsimp only; omega)); (case k9 => exact BindsTo.of_eq rfl); (case c5 => decide); (case kB => exact locs rfl); (case c2 => exact rfl); (case c3 => exact rfl); (case c4 => exact rfl); k_whole; intro h' L' F' N')
  refine wpAny_noRaise ?_
  k_fold
  walk_at "mine to cmp"
  walk_at "mine steps"
  · rename Fr _ _ _ _ => F5
    exact hR 0 _ _ F5.keep
  · rename (Spec.lookup _ _).isSome = false => hno
    have d0 : (Str.ofString "A" == Str.ofString "True") = false := by decide +kernel
    have d1 : (Str.ofString "CET" == Str.ofString "True") = false := by decide +kernel
    have d2 : (Str.ofString "None" == Str.ofString "True") = false := by decide +kernel
    simp [strData, Spec.lookup, Spec.same, d0, d1, d2] at hno
theorem worth_Zulu {w : World} {mean : ExcName → Option Value} {mg mb : Str → Option Value} {dp un : Nat} {fr : Option (List Env)} {gd : Option (List Code)} {s : Shared} {t : Tok} {R : Result → Shared → Prop}
    (X : (hd.heap_39 w.params).In s.heap) (T : TopAt mean mg mb s.heap) (hd : dp + 10 < recursionLimit) (hu : un + 100 < cLine)
    (hR : ∀ (t : Tok) h' tk, (∀ a o, s.heap.get? a = some o → h'.get? a = some o) → R (.ok (.ret (.str (Str.ofString "Zulu") t))) { s with heap := h', toks := tk }) :
    codeAny (model PySem.Challenge.rw_dn0319_05.row.toRowW.prog w) { handled := none, depth := dp, frames := fr, guards := gd, units := un } (.call (.ref 73) ⟨[.str (Str.ofString "Zulu") t], []⟩) R s := by
  revert X; k_fill; intro X
  k_dflt (refine' enter0 X T.nolimit ?k6 ?k7 ?k8 ?k9 ?kB ?_ ?c2 ?c3 ?c4 ?c5; (case k6 => k_is); (case k7 => k_is); (case k8 => (dsimp only; omega)); (case k9 => exact BindsTo.of_eq rfl); (case c5 => decide); (case kB => exact locs rfl); (case c2 => exact rfl); (case c3 => exact rfl); (case c4 => exact rfl); k_whole; intro h' L' F' N')
  refine wpAny_noRaise ?_
  k_fold
  walk_at "mine to cmp"
  walk_at "mine steps"
  · rename Fr _ _ _ _ => F5
    exact hR _ _ _ F5.keep
  · rename (Spec.lookup _ _).isSome = false => hno
    have d0 : (Str.ofString "A" == Str.ofString "Zulu") = false := by decide +kernel
    have d1 : (Str.ofString "CET" == Str.ofString "Zulu") = false := by decide +kernel
    have d2 : (Str.ofString "None" == Str.ofString "Zulu") = false := by decide +kernel
    have d3 : (Str.ofString "True" == Str.ofString "Zulu") = false := by decide +kernel
    simp [strData, Spec.lookup, Spec.same, d0, d1, d2, d3] at hno
theorem worth_int {w : World} {mean : ExcName → Option Value} {mg mb : Str → Option Value} {dp un : Nat} {fr : Option (List Env)} {gd : Option (List Code)} {s : Shared} {t : Tok} {x : Str} {n : Int} {R : Result → Shared → Prop}
    (X : (hd.heap_39 w.params).In s.heap) (T : TopAt mean mg mb s.heap) (hd : dp + 10 < recursionLimit) (hu : un + 100 < cLine) (hx : PySem.intText? x = some n) (hl : x.length ≤ 13)
    (n1 : Str.ofString "A" ≠ x) (n2 : Str.ofString "CET" ≠ x) (n3 : Str.ofString "None" ≠ x) (n4 : Str.ofString "True" ≠ x) (n5 : Str.ofString "Zulu" ≠ x)
    (hR : ∀ (t : Tok) h' tk, (∀ a o, s.heap.get? a = some o → h'.get? a = some o) → R (.ok (.ret (.int n t))) { s with heap := h', toks := tk }) :
    codeAny (model PySem.Challenge.rw_dn0319_05.row.toRowW.prog w) { handled := none, depth := dp, frames := fr, guards := gd, units := un } (.call (.ref 73) ⟨[.str x t], []⟩) R s := by
  revert X; k_fill; intro X
  k_dflt (refine' enter0 X T.nolimit ?k6 ?k7 ?k8 ?k9 ?kB ?_ ?c2 ?c3 ?c4 ?c5; (case k6 => k_is); (case k7 => k_is); (case k8 => (dsimp only; omega)); (case k9 => exact BindsTo.of_eq rfl); (case c5 => decide); (case kB => exact locs rfl); (case c2 => exact rfl); (case c3 => exact rfl); (case c4 => exact rfl); k_whole; intro h' L' F' N')
  refine wpAny_noRaise ?_
  k_fold
  walk_at "mine to cmp"
  walk_at "mine steps"
  · exact absurd (Eq.symm ‹x = Str.ofString "A"›) n1
  · exact absurd (Eq.symm ‹x = Str.ofString "CET"›) n2
  · exact absurd (Eq.symm ‹x = Str.ofString "None"›) n3
  · exact absurd (Eq.symm ‹x = Str.ofString "True"›) n4
  · exact absurd (Eq.symm ‹x = Str.ofString "Zulu"›) n5
  · rename (Spec.lookup _ _).isSome = true => hno
    simp [strData, Spec.lookup, Spec.same, n1, n2, n3, n4, n5] at hno
  · rename Fr _ _ _ _ => F5
    exact hR _ _ _ F5.keep
theorem ne_by {a b : Str} (c : Nat) (h : c ∈ a.cps.toList) (k : c ∉ b.cps.toList) : a ≠ b := fun e => k (e ▸ h)
theorem worth_call {w : World} {mean : ExcName → Option Value} {mg mb : Str → Option Value} {dp un : Nat} {fr : Option (List Env)} {gd : Option (List Code)} {s : Shared} {t : Tok} {a : Atom} {R : Result → Shared → Prop}
    (X : (hd.heap_39 w.params).In s.heap) (T : TopAt mean mg mb s.heap) (hd : dp + 10 < recursionLimit) (hu : un + 100 < cLine) (ha : plainA a)
    (hR : ∀ v h' tk, (∀ a o, s.heap.get? a = some o → h'.get? a = some o) → IsAtom v a → R (.ok (.ret v)) { s with heap := h', toks := tk }) :
    codeAny (model PySem.Challenge.rw_dn0319_05.row.toRowW.prog w) { handled := none, depth := dp, frames := fr, guards := gd, units := un } (.call (.ref 73) ⟨[.str (strOf (aTxt a)) t], []⟩) R s := by
  have eA : Str.ofString "A" = strOf [65] := by decide +kernel
  have eC : Str.ofString "CET" = strOf [67, 69, 84] := by decide +kernel
  have eN : Str.ofString "None" = strOf [78, 111, 110, 101] := by decide +kernel
  have eT : Str.ofString "True" = strOf [84, 114, 117, 101] := by decide +kernel
  have eZ : Str.ofString "Zulu" = strOf [90, 117, 108, 117] := by decide +kernel
  rcases ha with ⟨i, rfl, hi⟩ | rfl | rfl | ⟨x, ok, rfl, rfl | rfl | rfl⟩
  · obtain ⟨h1, h2, h3⟩ := int_signs i hi
    have off : ∀ c, 65 ≤ c → c ∉ (strOf (aTxt (.int i))).cps.toList := fun c hc hm => by
      have := h3 c (by simpa [strOf] using hm)
      omega
    refine worth_int X T hd hu (int_back i hi) (by rw [strOf_len]; exact h1) ?_ ?_ ?_ ?_ ?_ fun t h' tk hk => hR _ h' tk hk (.int _ _)
    · rw [eA]; exact ne_by 65 (by simp [strOf]) (off _ (by omega))
    · rw [eC]; exact ne_by 67 (by simp [strOf]) (off _ (by omega))
    · rw [eN]; exact ne_by 78 (by simp [strOf]) (off _ (by omega))
    · rw [eT]; exact ne_by 84 (by simp [strOf]) (off _ (by omega))
    · rw [eZ]; exact ne_by 90 (by simp [strOf]) (off _ (by omega))
  · show codeAny _ _ (.call (.ref 73) ⟨[.str (strOf [84, 114, 117, 101]) t], []⟩) R s
    rw [← eT]
    exact worth_True X T hd hu fun t h' tk hk => hR _ h' tk hk (.bool _)
  · show codeAny _ _ (.call (.ref 73) ⟨[.str (strOf [78, 111, 110, 101]) t], []⟩) R s
    rw [← eN]
    exact worth_None X T hd hu fun t h' tk hk => hR _ h' tk hk .none
  · show codeAny _ _ (.call (.ref 73) ⟨[.str (strOf [65]) t], []⟩) R s
    rw [← eA]
    refine worth_A X T hd hu fun t h' tk hk => hR _ h' tk hk ?_
    rw [eA]; exact .str _ _ ok
  · show codeAny _ _ (.call (.ref 73) ⟨[.str (strOf [67, 69, 84]) t], []⟩) R s
    rw [← eC]
    refine worth_CET X T hd hu fun t h' tk hk => hR _ h' tk hk ?_
    rw [eC]; exact .str _ _ ok
  · show codeAny _ _ (.call (.ref 73) ⟨[.str (strOf [90, 117, 108, 117]) t], []⟩) R s
    rw [← eZ]
    refine worth_Zulu X T hd hu fun t h' tk hk => hR _ h' tk hk ?_
    rw [eZ]; exact .str _ _ ok
end Mine
end
section
namespace Mine
def plainR (r : Row) : Prop := ∀ a, some a ∈ r → plainA a
theorem good_of_mem {t : Tree} (h : ∀ a, some a ∈ flat t → goodA a) : goodT t := by
  induction t with
  | leaf a => exact h a (by simp [flat])
  | node x y z ix iy iz =>
    refine ⟨ix fun a ha => h a ?_, iy fun a ha => h a ?_, iz fun a ha => h a ?_⟩ <;> simp [flat, ha]
theorem good_of_plain {t : Tree} (h : plainR (flat t)) : goodT t := good_of_mem fun a ha => plain_good (h a ha)
theorem atom_refl (a : Atom) : atomEq a a = true := by cases a <;> simp [atomEq, Atom.D, PyData.eqv]
theorem cell_refl (c : Option Atom) : cellEq c c = true := by
  cases c with
  | none => exact cellEq_nn
  | some a => rw [cellEq_ss]; exact atom_refl a
theorem cells_refl : ∀ r : Row, PyData.eqvAll (r.map cellD) (r.map cellD) = true
  | [] => by simp [PyData.eqvAll]
  | c :: r => by
    have h : PyData.eqv (cellD c) (cellD c) = true := cell_refl c
    simp only [List.map_cons, PyData.eqvAll, h, cells_refl r, Bool.and_self]
theorem row_refl (r : Row) : PyData.eqv (rowD r) (rowD r) = true := by
  simp only [rowD, PyData.eqv, cells_refl]
theorem row_lay : ∀ r : Row, PyData.canLayAll0 (r.map cellD) = true
  | [] => by simp [PyData.canLayAll0]
  | c :: r => by simp [PyData.canLayAll0, cell_lay, row_lay r]
theorem row_depth : ∀ r : Row, PyData.depthAll (r.map cellD) ≤ 1
  | [] => by simp [PyData.depthAll]
  | c :: r => by
    have h1 := cell_depth c
    have h2 := row_depth r
    simp only [List.map_cons, PyData.depthAll]; omega
theorem row_sh (r : Row) : SeqAt.shaped (rowD r) = true := by
  have h := row_depth r
  simp only [SeqAt.shaped, rowD, PyData.canLay0, row_lay, PyData.depth, Bool.true_and, decide_eq_true_eq]
  omega
theorem dueR_refl : ∀ r : Row, dueR r r = some true
  | [] => by simp [dueR]
  | c :: r => by simp [dueR, cell_refl, dueR_refl r]
theorem cmp_refl (t : Tree) : cmpT t t = some true := by rw [← dueR_trees]; exact dueR_refl _
theorem dueR_pre : ∀ (p x y : Row), dueR (p ++ x) (p ++ y) = dueR x y
  | [], _, _ => rfl
  | c :: p, x, y => by simp only [List.cons_append, dueR, cell_refl, if_true]; exact dueR_pre p x y
def atomB : Atom := .str (strOf [66]) (by decide +kernel)
theorem plain_neB {a : Atom} (h : plainA a) : atomEq atomB a = false ∧ aTxt a ≠ [66] := by
  rcases h with ⟨i, rfl, hi⟩ | rfl | rfl | ⟨x, ok, rfl, rfl | rfl | rfl⟩
  · refine ⟨by simp [atomEq, atomB, Atom.D, PyData.eqv], fun e => ?_⟩
    have := (int_signs i hi).2.2 66 (by rw [e]; simp)
    omega
  · exact ⟨by simp [atomEq, atomB, Atom.D, PyData.eqv], by decide⟩
  · exact ⟨by simp [atomEq, atomB, Atom.D, PyData.eqv], by decide⟩
  · exact ⟨by simp [atomEq, atomB, Atom.D, PyData.eqv, strOf], by simp [aTxt, strOf]⟩
  · exact ⟨by simp [atomEq, atomB, Atom.D, PyData.eqv, strOf], by simp [aTxt, strOf]⟩
  · exact ⟨by simp [atomEq, atomB, Atom.D, PyData.eqv, strOf], by simp [aTxt, strOf]⟩
theorem goodB : goodA atomB := .inr (.inr (.inr ⟨_, _, rfl, .inr (.inr (.inr rfl))⟩))
/-- a plain part at a place: another may stand for it -/
theorem leaf_split : ∀ (t : Tree) (p : Nat) (a : Atom), (flat t)[p]? = some (some a) → ∃ (pre post : Row) (u v : List Nat), flat t = pre ++ some a :: post ∧ pre.length = p ∧ txtT t = u ++ (aTxt a ++ v) ∧
    ∀ b : Atom, ∃ t' : Tree, flat t' = pre ++ some b :: post ∧ txtT t' = u ++ (aTxt b ++ v) ∧ t'.isNode = t.isNode := by
  intro t
  induction t with
  | leaf a =>
    intro p b hp
    cases p with
    | zero =>
      simp only [flat, List.getElem?_cons_zero, Option.some.injEq] at hp
      subst hp
      exact ⟨[], [], [], [], by simp [flat], rfl, by simp [txtT], fun c => ⟨.leaf c, by simp [flat], by simp [txtT], rfl⟩⟩
    | succ p => simp [flat] at hp
  | node x y z ix iy iz =>
    intro p b hp
    cases p with
    | zero => simp [flat] at hp
    | succ q =>
      simp only [flat, List.getElem?_cons_succ] at hp
      by_cases h1 : q < (flat x).length
      · rw [List.getElem?_append_left h1] at hp
        obtain ⟨pre, post, u, v, e1, e2, e3, e4⟩ := ix q b hp
        refine ⟨Option.none :: pre, post ++ (flat y ++ flat z), headT ++ u, v ++ (44 :: 32 :: (txtT y ++ (44 :: 32 :: (txtT z ++ [41])))), by simp [flat, e1], by simp [e2], by simp [txtT, e3], fun c => ?_⟩
        obtain ⟨t', f1, f2, _⟩ := e4 c
        exact ⟨.node t' y z, by simp [flat, f1], by simp [txtT, f2], rfl⟩
      · rw [List.getElem?_append_right (by omega)] at hp
        by_cases h2 : q - (flat x).length < (flat y).length
        · rw [List.getElem?_append_left h2] at hp
          obtain ⟨pre, post, u, v, e1, e2, e3, e4⟩ := iy _ b hp
          refine ⟨Option.none :: (flat x ++ pre), post ++ flat z, headT ++ (txtT x ++ (44 :: 32 :: u)), v ++ (44 :: 32 :: (txtT z ++ [41])), by simp [flat, e1], by simp [e2]; omega, by simp [txtT, e3], fun c => ?_⟩
          obtain ⟨t', f1, f2, _⟩ := e4 c
          exact ⟨.node x t' z, by simp [flat, f1], by simp [txtT, f2], rfl⟩
        · rw [List.getElem?_append_right (by omega)] at hp
          obtain ⟨pre, post, u, v, e1, e2, e3, e4⟩ := iz _ b hp
          refine ⟨Option.none :: (flat x ++ (flat y ++ pre)), post, headT ++ (txtT x ++ (44 :: 32 :: (txtT y ++ (44 :: 32 :: u)))), v ++ [41], by simp [flat, e1], by simp [e2]; omega, by simp [txtT, e3], fun c => ?_⟩
          obtain ⟨t', f1, f2, _⟩ := e4 c
          exact ⟨.node x y t', by simp [flat, f1], by simp [txtT, f2], rfl⟩
theorem set_mid : ∀ (pre : Row) (a : Atom) (post : Row), List.set (pre ++ some a :: post) pre.length (some atomB) = pre ++ some atomB :: post
  | [], _, _ => rfl
  | c :: pre, a, post => by simp [set_mid pre a post]
/-- another tree: B stands for a plain part -/
theorem other_tree {t : Tree} {p : Nat} {a : Atom} (h : (flat t)[p]? = some (some a)) (hp : plainR (flat t)) : ∃ t', flat t' = (flat t).set p (some atomB) ∧ goodT t' ∧ cmpT t' t = some false ∧ cmpT t t' = some false ∧ showT t' ≠ showT t ∧ t'.isNode = t.isNode := by
  obtain ⟨pre, post, u, v, e1, e2, e3, e4⟩ := leaf_split t p a h
  obtain ⟨t', f1, f2, f3⟩ := e4 atomB
  have ha : plainA a := hp a (List.mem_of_getElem? h)
  obtain ⟨n1, n2⟩ := plain_neB ha
  have hc : cmpT t' t = some false := by
    rw [← dueR_trees, f1, e1, dueR_pre]
    simp [dueR, cellEq_ss, n1]
  refine ⟨t', ?_, good_of_mem ?_, hc, (cmpT_symm _ _).trans hc, ?_, f3⟩
  · rw [f1, e1, ← e2]
    exact (set_mid pre a post).symm
  · intro b hb
    rw [f1] at hb
    rcases List.mem_append.mp hb with hb | hb
    · exact plain_good (hp b (by rw [e1]; exact List.mem_append_left _ hb))
    · rcases List.mem_cons.mp hb with hb | hb
      · cases hb; exact goodB
      · exact plain_good (hp b (by rw [e1]; exact List.mem_append_right _ (.tail _ hb)))
  · intro e
    have e' := strOf_inj e
    rw [f2, e3] at e'
    have e'' := List.append_cancel_right (List.append_cancel_left e')
    exact n2 (e''.symm.trans (by simp [aTxt, atomB, strOf]))
theorem leaf_there : ∀ t : Tree, ∃ (p : Nat) (a : Atom), (flat t)[p]? = some (some a) := by
  intro t
  induction t with
  | leaf a => exact ⟨0, a, rfl⟩
  | node x y z ix iy iz =>
    obtain ⟨p, a, h⟩ := ix
    refine ⟨p + 1, a, ?_⟩
    have hl : p < (flat x).length := by
      rcases Nat.lt_or_ge p (flat x).length with h' | h'
      · exact h'
      · rw [List.getElem?_eq_none h'] at h; cases h
    simp only [flat, List.getElem?_cons_succ]
    rw [List.getElem?_append_left hl, h]
/-- how far it is to a plain part, going round -/
theorem round_start {n p k : Nat} (hp : p < n) (hk : k < n) : ∃ d, (k + d) % n = p := ⟨(p + n - k) % n, by
  rw [Nat.add_mod_mod, show k + (p + n - k) = p + n by omega, Nat.add_mod_right, Nat.mod_eq_of_lt hp]⟩
theorem round_step {n p k d : Nat} (h : (k + (d + 1)) % n = p) : ((k + 1) % n + d) % n = p := by
  rw [Nat.mod_add_mod, show k + 1 + d = k + (d + 1) by omega, h]
end Mine
end
section
namespace Mine
section
variable {w : World} {mean : ExcName → Option Value} {mg mb : Str → Option Value} {dp un : Nat} {gd : Option (List Code)} {h₀ : Heap} {L a : Addr} {m : Str → Option Value} {news : List (Addr × Obj)} {s : Shared} {Q E : Value → Shared → Prop} {name : Str} {scope : Scope} {cd : Value}
theorem use_eq {v v' : Value} {t u : Tree} {b : Bool} (hb : cmpT t u = some b) (X : (hd.heap_39 w.params).In h₀) (T : TopAt mean mg mb h₀) (hd : dp + 1 + (t.size + u.size) + 10 < recursionLimit) (hu : un + 3 + 10 * (t.size + u.size) + 100 < cLine)
    (B : Below (ar dp un gd []) h₀ [] h₀) (F : Fr h₀ L s.heap m) (N : News h₀ L s.heap news) (hv : TreeP (fun a o => (a, o) ∈ news) v t) (hv' : TreeP (fun a o => (a, o) ∈ news) v' u)
    (k : ∀ h' tk, Fr h₀ L h' m → News h₀ L h' news → Q (.bool b) { s with heap := h', toks := tk }) (hk : scope.kind = .function := by rfl) :
    wpAny (model PySem.Challenge.rw_dn0319_05.row.toRowW.prog w) ((ar dp un gd []).deeper (envOf name scope L a cd)) (compareOp .Eq v v') Q E s := by
  have B' := B.push (name := name) (scope := scope) (a := a) (cd := cd) F hk
  have hin : ∀ p ∈ news, (hideAll s.heap (framesOf [envOf name scope L a cd])).get? p.1 = some p.2 := fun p hp => hideAll_get _ (N p hp).1 (off_frames B N p hp)
  show wpAny _ (ar (dp + 1) (un + 3) gd [envOf name scope L a cd]) _ _ _ _
  refine eq_tree t u (dp + 1) (un + 3) gd _ _ s v v' Q E (X.keeps F.keep) (T.keeps F.keep) hd hu (below_all B') (hv.mono fun a o q => hin _ q) (hv'.mono fun a o q => hin _ q) (fun b' h' tk hb' hk => ?_) (fun e h' tk hn => by rw [hb] at hn; cases hn)
  rw [hb] at hb'; cases hb'
  have := k h' tk (F.keeps hk) (N.grown hk)
  simpa using this
theorem use_ne {v v' : Value} {x y z u : Tree} {b : Bool} (hb : cmpT (.node x y z) u = some b) (X : (hd.heap_39 w.params).In h₀) (T : TopAt mean mg mb h₀) (hd : dp + 1 + ((Tree.node x y z).size + u.size) + 10 < recursionLimit) (hu : un + 3 + 10 * ((Tree.node x y z).size + u.size) + 101 < cLine)
    (B : Below (ar dp un gd []) h₀ [] h₀) (F : Fr h₀ L s.heap m) (N : News h₀ L s.heap news) (hv : TreeP (fun a o => (a, o) ∈ news) v (.node x y z)) (hv' : TreeP (fun a o => (a, o) ∈ news) v' u)
    (k : ∀ h' tk, Fr h₀ L h' m → News h₀ L h' news → Q (.bool (!b)) { s with heap := h', toks := tk }) (hk : scope.kind = .function := by rfl) :
    wpAny (model PySem.Challenge.rw_dn0319_05.row.toRowW.prog w) ((ar dp un gd []).deeper (envOf name scope L a cd)) (compareOp .NotEq v v') Q E s := by
  have B' := B.push (name := name) (scope := scope) (a := a) (cd := cd) F hk
  have hin : ∀ p ∈ news, (hideAll s.heap (framesOf [envOf name scope L a cd])).get? p.1 = some p.2 := fun p hp => hideAll_get _ (N p hp).1 (off_frames B N p hp)
  show wpAny _ (ar (dp + 1) (un + 3) gd [envOf name scope L a cd]) _ _ _ _
  refine ne_node x y z u (dp + 1) (un + 3) gd _ _ s v v' Q E (X.keeps F.keep) (T.keeps F.keep) hd hu (below_all B') (hv.mono fun a o q => hin _ q) (hv'.mono fun a o q => hin _ q) (fun b' h' tk hb' hk => ?_) (fun e h' tk hn => by rw [hb] at hn; cases hn)
  rw [hb] at hb'; cases hb'
  have := k h' tk (F.keeps hk) (N.grown hk)
  simpa using this
theorem use_repr {fr : Option (List Env)} {v : Value} {x y z : Tree} (X : (hd.heap_39 w.params).In h₀) (T : TopAt mean mg mb h₀) (hd : dp + (Tree.node x y z).size + 10 < recursionLimit) (hu : un + 10 * (Tree.node x y z).size + 50 < cLine) (F : Fr h₀ L s.heap m) (N : News h₀ L s.heap news)
    (hv : TreeP (fun a o => (a, o) ∈ news) v (.node x y z)) (hgood : goodT (.node x y z)) (hlen : (flat (.node x y z)).length < 1000)
    (k : ∀ h' u tk, Fr h₀ L h' m → News h₀ L h' news → Q (.str (showT (.node x y z)) u) { s with heap := h', toks := tk }) :
    wpAny (model PySem.Challenge.rw_dn0319_05.row.toRowW.prog w) { handled := none, depth := dp, frames := fr, guards := gd, units := un } (call (.builtin "repr") [v]) Q E s := by
  have hv1 : TreeH s.heap v (.node x y z) := hv.mono fun a o q => (N _ q).1
  have hv2 := hv1
  cases hv2 with | node g1 g2 _ _ _ =>
  revert X; k_fill; intro X
  refine repr_K (f := 43) (by show un + 1 < cLine; omega) F X (node_inst g1 g2) (by k_is) (by k_is) ?_
  refine repr_body (field_tree x) (field_tree y) (field_tree z) dp (un + 1) fr gd s _ _ _ (X.keeps F.keep) (T.keeps F.keep) hd (by omega) hv1 hgood hlen ?_
  intro h' u tk hk
  exact k h' u tk (F.keeps hk) (N.grown hk)
theorem use_str {fr : Option (List Env)} {v : Value} {x y z : Tree} (X : (hd.heap_39 w.params).In h₀) (T : TopAt mean mg mb h₀) (hd : dp + (Tree.node x y z).size + 10 < recursionLimit) (hu : un + 10 * (Tree.node x y z).size + 50 < cLine) (F : Fr h₀ L s.heap m) (N : News h₀ L s.heap news)
    (hv : TreeP (fun a o => (a, o) ∈ news) v (.node x y z)) (hgood : goodT (.node x y z)) (hlen : (flat (.node x y z)).length < 1000)
    (k : ∀ h' u tk, Fr h₀ L h' m → News h₀ L h' news → Q (.str (showT (.node x y z)) u) { s with heap := h', toks := tk }) :
    wpAny (model PySem.Challenge.rw_dn0319_05.row.toRowW.prog w) { handled := none, depth := dp, frames := fr, guards := gd, units := un } (call (.type "str") [v]) Q E s := by
  have hv1 : TreeH s.heap v (.node x y z) := hv.mono fun a o q => (N _ q).1
  have hv2 := hv1
  cases hv2 with | node g1 g2 _ _ _ =>
  revert X; k_fill; intro X
  refine kfo_call (f := 43) (by show un + 1 + 1 < cLine; omega) (by show un + 1 + 1 + 1 < cLine; omega) (X.keeps F.keep) (node_inst g1 g2) (by k_is) (by k_is) (by k_is) (by k_is) ?_
  refine repr_body (field_tree x) (field_tree y) (field_tree z) dp (un + 1 + 1 + 1) fr gd s _ _ _ (X.keeps F.keep) (T.keeps F.keep) hd (by omega) hv1 hgood hlen ?_
  intro h' u tk hk
  exact k h' u tk (F.keeps hk) (N.grown hk)
theorem use_worth {fr : Option (List Env)} {t : Tok} {at' : Atom} (X : (hd.heap_39 w.params).In h₀) (T : TopAt mean mg mb h₀) (hd : dp + 10 < recursionLimit) (hu : un + 100 < cLine) (F : Fr h₀ L s.heap m) (N : News h₀ L s.heap news) (ha : plainA at')
    (k : ∀ v h' tk, Fr h₀ L h' m → News h₀ L h' news → IsAtom v at' → Q v { s with heap := h', toks := tk }) :
    wpAny (model PySem.Challenge.rw_dn0319_05.row.toRowW.prog w) { handled := none, depth := dp, frames := fr, guards := gd, units := un } (call (.ref 73) [.str (strOf (aTxt at')) t]) Q E s :=
  wpAny_call (worth_call (X.keeps F.keep) (T.keeps F.keep) hd hu ha fun v h' tk hk hv => k v h' tk (F.keeps hk) (N.grown hk) hv)
end
theorem small_log {i : Int} (hj : i.natAbs < 10 ^ 12) : i.natAbs.log2 < 1920 := by
  by_cases h0 : i.natAbs = 0
  · rw [h0]; decide
  · exact Nat.lt_of_lt_of_le ((Nat.log2_lt h0).mpr (Nat.lt_of_lt_of_le hj (by decide : 10 ^ 12 ≤ 2 ^ 40))) (by decide)
theorem str_atom {prog : Program} {w : World} {A : Around} {E : Value → Shared → Prop} {s : Shared} {v : Value} {a : Atom} {Q : Value → Shared → Prop} (e : IsAtom v a) (ha : goodA a) (h : ∀ t tk, Q (.str (strOf (aTxt a)) t) { s with toks := tk }) :
    wpAny (model prog w) A (call (.type "str") [v]) Q E s := by
  cases e with
  | int i t =>
    refine P.str_of_int ?_ ?_
    · rcases ha with ⟨j, e, hj⟩ | e | e | ⟨_, _, e, _⟩
      · cases e; exact small_log hj
      · cases e
      · cases e
      · cases e
    · have := h s.toks (s.toks + 1)
      rw [ofString_strOf]
      exact this
  | bool b => exact P.str_of_bool (by cases b <;> exact h _ _)
  | str x t ok =>
    refine P.str_of_str ?_
    have := h t s.toks
    rw [aTxt, strOf_cps] at this
    exact this
  | none => exact P.str_of_none (h _ _)
/-- a comprehension over a row, cell by cell -/
theorem comp_cells {prog : Program} {w : World} {A : Around} {s : Shared} {h₀ : Heap} {L : Addr} {m : Str → Option Value} {env : Env} {elt : PySem.Expr} {x : Str} {scope : Scope} {cl : List (Str × Addr)} {Fin : List Value → List (Addr × Obj) → Prop} {ax : Addr} {its : List Value} {k : Nat}
    {news₀ : List (Addr × Obj)} {r r' : Row} (hrr : r'.length = r.length) (hsrc : (ax, W.listOf its.toArray k) ∈ news₀) (hits : Paired (CellP fun a o => (a, o) ∈ news₀) its r)
    (turn : ∀ (i : Nat) v c c' I oI C oC D m₂ h tk (E' : Value → Shared → Prop) ys tl (rest : Value → Shared → Prop), CellP (fun a o => (a, o) ∈ news₀) v c → r[i]? = some c → r'[i]? = some c' → LCg.NsObj oC m₂ → m₂ x = some v → Fr h₀ L h m → News h₀ L h ((I, oI) :: (C, oC) :: (D, LCg.lst ys) :: (tl ++ news₀)) →
      (∀ p ∈ tl ++ news₀, p.1 ≠ I ∧ p.1 ≠ C ∧ p.1 ≠ D) → ((@Ne Nat I C) ∧ (@Ne Nat I D) ∧ (@Ne Nat C D)) →
      (∀ y e h' tk', Fr h₀ L h' m → News h₀ L h' ((I, oI) :: (C, oC) :: (D, LCg.lst ys) :: (e ++ (tl ++ news₀))) → (∀ p ∈ e, p.1 ≠ I ∧ p.1 ≠ C ∧ p.1 ≠ D) → (∀ p ∈ e, ∀ q ∈ tl ++ news₀, p.1 ≠ q.1) → CellP (fun a o => (a, o) ∈ e ++ (tl ++ news₀)) y c' → rest y { s with heap := h', toks := tk' }) →
      wpAny (model prog w) A (eval elt (compEnvC scope cl C env)) rest E' { s with heap := h, toks := tk })
    (fin : ∀ ys tl, Paired (CellP fun a o => (a, o) ∈ tl ++ news₀) ys r' → (∀ p ∈ tl, ∀ q ∈ news₀, p.1 ≠ q.1) → Fin ys (tl ++ news₀)) :
    LCg.CompRest prog w A h₀ L m env elt x scope cl s (LCg.SrcAt h₀ ax its.toArray) (fun i v => its.toArray[i]? = some v) Fin its.toArray.size 0 [] news₀ := by
  have hlen := Paired.len hits
  have main : ∀ (n i : Nat) (ys : List Value) (tl : List (Addr × Obj)), i + n = its.length → (∀ p ∈ tl, ∀ q ∈ news₀, p.1 ≠ q.1) → Paired (CellP fun a o => (a, o) ∈ tl ++ news₀) ys (r'.take i) →
      LCg.CompRest prog w A h₀ L m env elt x scope cl s (LCg.SrcAt h₀ ax its.toArray) (fun i v => its.toArray[i]? = some v) Fin n i ys (tl ++ news₀) := by
    intro n
    induction n with
    | zero =>
      intro i ys tl hi ho hp
      refine LCg.CompRest.zero (fin ys tl ?_ ho)
      rwa [List.take_of_length_le (by omega)] at hp
    | succ n ih =>
      intro i ys tl hi ho hp
      refine LCg.CompRest.succ ?_
      intro v I oI C oC D m₂ h tk E' hv hC hx F N off ne
      have hv' : its[i]? = some v := by simpa using hv
      obtain ⟨c, hc⟩ : ∃ c, r[i]? = some c := ⟨_, List.getElem?_eq_getElem (by omega)⟩
      obtain ⟨c', hc'⟩ : ∃ c', r'[i]? = some c' := ⟨_, List.getElem?_eq_getElem (by omega)⟩
      obtain ⟨v', hv1, hcell⟩ := paired_get hits i c hc
      rw [hv'] at hv1
      cases hv1
      refine turn i v c c' I oI C oC D m₂ h tk E' ys tl _ hcell hc hc' hC hx F N (LCg.Off3.mem off) ne fun y e h' tk' F' N' offe offn hy => ?_
      refine LCg.CompEnd.intro F' N' (e ++ (tl ++ news₀)) (fun p hp => hp) (LCg.Off3.of ?_) (.inr ⟨_, List.mem_append_right _ (List.mem_append_right _ hsrc), rfl, _, rfl⟩) ?_
      · intro p hp
        rcases List.mem_append.mp hp with hp | hp
        · exact offe p hp
        · exact LCg.Off3.mem off p hp
      · rw [← List.append_assoc] at hy ⊢
        refine ih (i + 1) (ys ++ [y]) (e ++ tl) (by omega) ?_ ?_
        · intro p hp q hq
          rcases List.mem_append.mp hp with hp | hp
          · exact offn p hp q (List.mem_append_right _ hq)
          · exact ho p hp q hq
        rw [List.take_add_one, hc']
        refine paired_append (Paired.mono' hp fun _ _ q => q.mono fun a o q => ?_) (.cons hy .nil)
        rw [List.append_assoc]; exact List.mem_append_right _ q
  have := main its.length 0 [] [] (by simp) (List.forall_mem_nil _) (by simpa using Paired.nil)
  simpa using this
end Mine
end
section
namespace Mine
local macro_rules | `(tactic| walk_at "mine step") => `(tactic| first | (k_unfold; (try dsimp only)) | (k_end; wrow_close) | walk1 | (dsimp only; walk1) | (leave1; walk_say "STEP leave1"; try dsimp only) | fail "no step")
local macro_rules | `(tactic| walk_at "mine to call") => `(tactic| repeat' ((fail_if_success (with_reducible show wpAny _ _ (PySem.call (Value.ref _) _ _) _ _ _)); (fail_if_success (with_reducible show wpAny _ _ (PySem.call (Value.builtin "repr") _ _) _ _ _)); (fail_if_success (with_reducible show wpAny _ _ (PySem.call (Value.type "str") _ _) _ _ _)); (fail_if_success (with_reducible show wpAny _ _ (PySem.compareOp _ (Value.str _ _) _) _ _ _)); (fail_if_success (with_reducible show wpAny _ _ (PySem.exec (PySem.Stmt.For _ _ _ _ _) _) _ _ _)); (fail_if_success (with_reducible show wpAny _ _ (PySem.exec (PySem.Stmt.While _ _ _ _) _) _ _ _)); (fail_if_success (with_reducible show wpAny _ _ (PySem.exec (PySem.Stmt.Assign _ (Expr.ListComp _ _ _ _) _) _) _ _ _)); (fail_if_success (with_reducible show wpAny _ _ (PySem.eval (Expr.ListComp _ _ _ _) _) _ _ _)); walk_at "mine step"))
local macro_rules | `(tactic| walk_at "mine to iter") => `(tactic| repeat' ((fail_if_success (with_reducible show wpAny _ _ (PySem.pyIter _) _ _ _)); walk_at "mine step"))
local macro_rules | `(tactic| k_all) => `(tactic| assumption)
local macro_rules | `(tactic| walk_at "call builtin:list.append") => `(tactic| (k_here; (with_reducible show wpAny _ _ (call (Value.builtin _) [Value.ref _, _]) _ _ _); k_dflt (refine' append_K ?k1 ?k2 ?k3 ?_ ?z; (case k1 => k_asm); (case k2 => k_asm); (case k3 => k_upd); (case z => (refine Nat.le_trans (m := 9000) ?_ (by decide); simp only [List.size_toArray]; omega)); k_whole); intro h' F' N'; (try k_sweep)))
local macro_rules | `(tactic| walk_at "call builtin:len") => `(tactic| (k_here; (with_reducible show wpAny _ _ (call (Value.builtin _) [Value.ref _]) _ _ _); k_dflt (refine' len_at ⟨_, News.get (by k_asm) (by k_mem), rfl, _, rfl⟩ ?z ?_; (case z => omega))))
local macro_rules | `(tactic| walk_at "subscriptTail") => `(tactic| (k_here; (with_reducible show wpAny _ _ (subscriptTail _ _ (Value.ref _) (Value.int _ _)) _ _ _); k_dflt (refine' item_at ⟨_, News.get (by k_asm) (by k_mem), rfl, _, rfl⟩ ?a ?b ?c ?_ ?d; (case a => omega); (case b => omega); (case c => (first | (simp only [Int.toNat_natCast]; assumption) | (simp only [Int.toNat_zero]; assumption))); (case d => with_unfolding_all rfl); k_whole)))
local macro_rules | `(tactic| k_mem) => `(tactic| assumption)
local macro_rules | `(tactic| walk_at "binaryOp Add ref ref") => `(tactic| (k_here; k_dflt (refine' add_K ?k1 ?k2 ?k3 ?k4 ?_ ?k5; (case k1 => k_asm); (case k2 => k_asm); (case k3 => exact ⟨_, News.get (by k_asm) (by k_mem), rfl, _, rfl⟩); (case k4 => exact ⟨_, News.get (by k_asm) (by k_mem), rfl, _, rfl⟩); (case k5 => (refine Nat.le_trans (m := 9000) ?_ (by decide); (try simp only [List.size_toArray, List.length_append]); omega))); intro D' h' F' N' l1; (try k_lt l1); (try k_sweep)))
local macro_rules | `(tactic| walk_at "mine to if") => `(tactic| repeat' ((fail_if_success (with_reducible show wpAny _ _ (PySem.exec (PySem.Stmt.If _ _ _ _) _) _ _ _)); walk_at "mine step"))
local macro_rules | `(tactic| walk_at "callWith") => `(tactic| ((with_reducible show wpAny _ _ (PySem.callWith _ (Prod.fst _) (Prod.snd _) _ _) _ _ _); dsimp only; refine callWith_method1 ?_))
local macro_rules | `(tactic| walk_at "mine to cmpr") => `(tactic| repeat' ((fail_if_success (with_reducible show wpAny _ _ (PySem.compareOp _ (Value.ref _) _) _ _ _)); (fail_if_success (with_reducible show wpAny _ _ (PySem.compareOp PySem.CmpOp.Eq (Value.int (Int.fmod _ _) _) _) _ _ _)); (fail_if_success (with_reducible show wpAny _ _ (subscriptTail (PySem.Expr.List _ _) _ _ _) _ _ _)); walk_at "mine step"))
theorem small_pos (a : Int) : (Int.fmod a (10 ^ 12)).natAbs < 10 ^ 12 := by
  have h1 := Int.fmod_nonneg_of_pos a (b := 10 ^ 12) (by decide)
  have h2 := Int.fmod_lt_of_pos a (b := 10 ^ 12) (by decide)
  omega
theorem small_neg (a : Int) : (- Int.fmod a (10 ^ 12)).natAbs < 10 ^ 12 := by
  rw [Int.natAbs_neg]; exact small_pos a
theorem menu_get {t1 t2 t3 : Tok} : ∀ j, j < 5 → ∃ v a, [Value.str (Str.ofString "A") t1, Value.str (Str.ofString "CET") t2, Value.none, Value.bool true, Value.str (Str.ofString "Zulu") t3][j]? = some v ∧ IsAtom v a ∧ plainA a := by
  have eA : Str.ofString "A" = strOf [65] := by decide +kernel
  have eC : Str.ofString "CET" = strOf [67, 69, 84] := by decide +kernel
  have eZ : Str.ofString "Zulu" = strOf [90, 117, 108, 117] := by decide +kernel
  intro j hj
  have : j = 0 ∨ j = 1 ∨ j = 2 ∨ j = 3 ∨ j = 4 := by omega
  rcases this with rfl | rfl | rfl | rfl | rfl
  · exact ⟨_, _, rfl, .str _ _ (by decide +kernel), .inr (.inr (.inr ⟨_, _, rfl, .inl eA⟩))⟩
  · exact ⟨_, _, rfl, .str _ _ (by decide +kernel), .inr (.inr (.inr ⟨_, _, rfl, .inr (.inl eC)⟩))⟩
  · exact ⟨_, _, rfl, .none, .inr (.inr (.inl rfl))⟩
  · exact ⟨_, _, rfl, .bool _, .inr (.inl rfl)⟩
  · exact ⟨_, _, rfl, .str _ _ (by decide +kernel), .inr (.inr (.inr ⟨_, _, rfl, .inr (.inr eZ)⟩))⟩
local macro_rules | `(tactic| walk_at "mine to src") => `(tactic| repeat' ((fail_if_success (with_reducible show LCg.CompSrc _ _ _ _ _ _ _ _ _ _ _ _ _ _)); walk_at "mine step"))
local macro_rules | `(tactic| walk_at "mine to elt") => `(tactic| repeat' ((fail_if_success (with_reducible show wpAny _ _ (PySem.compareOp _ (Value.ref _) _) _ _ _)); (fail_if_success (with_reducible show wpAny _ _ (subscriptTail _ _ (Value.ref _) (Value.int _ _)) _ _ _)); (fail_if_success (with_reducible show wpAny _ _ (PySem.call (Value.ref _) _ _) _ _ _)); (fail_if_success (with_reducible show wpAny _ _ (PySem.call (Value.type "str") _ _) _ _ _)); walk_at "mine step"))
theorem abs_law {h₀ h : Heap} {L aN a1 a2 aR : Addr} {oN o1 o2 : Obj} (N : News h₀ L h [(aN, oN), (a1, o1), (a2, o2), (aR, W.listOf #[] 0)]) (l1 : @LT.lt Nat _ aR a2) (l2 : @LT.lt Nat _ aR a1) (l3 : @LT.lt Nat _ aR aN) :
    ∃ old, News h₀ L h ((aR, W.listOf (List.toArray []) 0) :: old) ∧ (∀ p ∈ old, p.1 ≠ aR) ∧ (aN, oN) ∈ old := by
  refine ⟨[(aN, oN), (a1, o1), (a2, o2)], news_sub N (by intro p hp; simp only [List.mem_cons] at hp ⊢; grind), ?_, .head _⟩
  intro p hp
  simp only [List.mem_cons, List.mem_nil_iff, or_false] at hp
  rcases hp with rfl | rfl | rfl
  · exact Nat.ne_of_gt l3
  · exact Nat.ne_of_gt l2
  · exact Nat.ne_of_gt l1
theorem mem1 {h₀ h : Heap} {L : Addr} {a x : Addr × Obj} {old : List (Addr × Obj)} (_N : News h₀ L h (a :: old)) (q : x ∈ old) : x ∈ a :: old := .tail _ q
theorem mem2 {h₀ h : Heap} {L : Addr} {a b x : Addr × Obj} {old : List (Addr × Obj)} (_N : News h₀ L h (a :: b :: old)) (q : x ∈ old) : x ∈ a :: b :: old := .tail _ (.tail _ q)
theorem mem3 {h₀ h : Heap} {L : Addr} {a b c x : Addr × Obj} {old : List (Addr × Obj)} (_N : News h₀ L h (a :: b :: c :: old)) (q : x ∈ old) : x ∈ a :: b :: c :: old := .tail _ (.tail _ (.tail _ q))
theorem ints_get {vs : List Value} {ns : List Int} (h : IntsAre vs ns) (i : Nat) (hi : i < ns.length) : ∃ x t, vs[i]? = some (.int x t) := by
  have hl := h.length
  obtain ⟨n, t, e, _⟩ := IntsAre.at h i _ (List.getElem?_eq_getElem (by omega))
  exact ⟨n, t, by rw [← e]; exact List.getElem?_eq_getElem _⟩
/-- what the rows hold, ahead of turn i -/
def RowsAt (aN : Addr) (nvs : List Value) (i : Nat) (m : Str → Option Value) (nw : List (Addr × Obj)) : Prop :=
  ∃ aR rv ts kr old, m (Str.ofString "rows") = some (.ref aR) ∧ m (Str.ofString "numbers") = some (.ref aN) ∧ nw = (aR, W.listOf (List.toArray rv) kr) :: old ∧ (∀ p ∈ old, p.1 ≠ aR) ∧ (aN, W.listOf (List.toArray nvs) 0) ∈ old ∧
    Paired (fun v t => RowP (fun a o => (a, o) ∈ old) v (flat t)) rv ts ∧ ts.length ≤ i ∧ ∀ t ∈ ts, t.isNode = true ∧ plainR (flat t) ∧ (flat t).length ≤ 10
theorem abs_num {h₀ h : Heap} {L aN aR : Addr} {nvs : List Value} {nn : List Int} {m : Str → Option Value} {old : List (Addr × Obj)} (F : Fr h₀ L h m) (e : m (Str.ofString "numbers") = some (.ref aN)) (e' : m (Str.ofString "rows") = some (.ref aR)) (hI : IntsAre nvs nn) (hl : nn.length ≤ 32) (hm : (aN, W.listOf (List.toArray nvs) 0) ∈ old) :
    ∃ aN nvs nn m', Fr h₀ L h (known [(Str.ofString "numbers", .ref aN), (Str.ofString "rows", .ref aR)] m') ∧ IntsAre nvs nn ∧ nn.length ≤ 32 ∧ (aN, W.listOf (List.toArray nvs) 0) ∈ old :=
  ⟨_, _, _, m, fr_known _ F (by simp only [List.forall_mem_cons]; exact ⟨e, e', List.forall_mem_nil _⟩), hI, hl, hm⟩
def InTurn (I2 aRow I aR : Addr) (old : List (Addr × Obj)) : Prop :=
  (@Ne Nat aRow I2) ∧ (@Ne Nat aRow I) ∧ (@Ne Nat aRow aR) ∧ (@Ne Nat I I2) ∧ (@Ne Nat aR I2) ∧ (∀ p ∈ old, p.1 ≠ aRow) ∧ (∀ p ∈ old, p.1 ≠ I) ∧ (∀ p ∈ old, p.1 ≠ aR) ∧ (∀ p ∈ old, p.1 ≠ I2)
theorem allLt_mem {D : Addr} : ∀ {l : List (Addr × Obj)}, AllLt D l → ∀ p ∈ l, p.1 < D
  | [], _, _, h => nomatch h
  | _ :: _, x, p, h => by
    rcases List.mem_cons.mp h with rfl | h
    · exact x.1
    · exact allLt_mem x.2 p h
theorem start_turn {h₀ h : Heap} {L I2 aL aRow aC I aR : Addr} {o2 oL it oR : Obj} {old : List (Addr × Obj)} (N : News h₀ L h ((I2, o2) :: (aL, oL) :: (aRow, W.listOf #[.ref aC] 0) :: (aC, W.listOf #[] 0) :: (I, it) :: (aR, oR) :: old))
    (hI2 : ∀ p ∈ (aL, oL) :: (aRow, W.listOf #[.ref aC] 0) :: (aC, W.listOf #[] 0) :: (I, it) :: (aR, oR) :: old, p.1 < I2) (l0 : @LT.lt Nat _ aRow aL ∧ @LT.lt Nat _ aC aL ∧ @LT.lt Nat _ I aL ∧ @LT.lt Nat _ aR aL ∧ AllLt aL old) (l1 : @LT.lt Nat _ aC aRow ∧ @LT.lt Nat _ I aRow ∧ @LT.lt Nat _ aR aRow ∧ AllLt aRow old) (l2 : @LT.lt Nat _ I aC ∧ @LT.lt Nat _ aR aC ∧ AllLt aC old)
    (offI : ∀ p ∈ (aR, oR) :: old, p.1 ≠ I) (offR : ∀ p ∈ old, p.1 ≠ aR) :
    ∃ vs kv old2, News h₀ L h ((I2, o2) :: (aRow, W.listOf (List.toArray vs) kv) :: (I, it) :: (aR, oR) :: old2) ∧ (∀ p ∈ old, p ∈ old2) ∧ (aL, oL) ∈ old2 ∧ InTurn I2 aRow I aR old2 ∧ Paired (CellP fun a o => (a, o) ∈ old2) vs [Option.none] ∧ vs.length ≤ 1 := by
  have a1 : aL < I2 := hI2 (aL, oL) (.head _)
  have a2 : aRow < I2 := hI2 (aRow, W.listOf #[.ref aC] 0) (.tail _ (.head _))
  have a3 : aC < I2 := hI2 (aC, W.listOf #[] 0) (.tail _ (.tail _ (.head _)))
  have a4 : I < I2 := hI2 (I, it) (.tail _ (.tail _ (.tail _ (.head _))))
  have a5 : aR < I2 := hI2 (aR, oR) (.tail _ (.tail _ (.tail _ (.tail _ (.head _)))))
  refine ⟨[.ref aC], 0, (aL, oL) :: (aC, W.listOf #[] 0) :: old, news_sub N (by intro p hp; simp only [List.mem_cons] at hp ⊢; grind), fun p hp => .tail _ (.tail _ hp), .head _, ⟨Nat.ne_of_lt a2, Nat.ne_of_gt l1.2.1, Nat.ne_of_gt l1.2.2.1, Nat.ne_of_lt a4, Nat.ne_of_lt a5, ?_, ?_, ?_, ?_⟩, .cons ⟨aC, [], 0, rfl, .tail _ (.head _), .nil⟩ .nil, by simp⟩
  · intro p hp
    simp only [List.mem_cons] at hp
    rcases hp with rfl | rfl | hp
    · exact Nat.ne_of_gt l0.1
    · exact Nat.ne_of_lt l1.1
    · exact Nat.ne_of_lt (allLt_mem l1.2.2.2 p hp)
  · intro p hp
    simp only [List.mem_cons] at hp
    rcases hp with rfl | rfl | hp
    · exact Nat.ne_of_gt l0.2.2.1
    · exact Nat.ne_of_gt l2.1
    · exact offI p (.tail _ hp)
  · intro p hp
    simp only [List.mem_cons] at hp
    rcases hp with rfl | rfl | hp
    · exact Nat.ne_of_gt l0.2.2.2.1
    · exact Nat.ne_of_gt l2.2.1
    · exact offR p hp
  · intro p hp
    simp only [List.mem_cons] at hp
    rcases hp with rfl | rfl | hp
    · exact Nat.ne_of_lt a1
    · exact Nat.ne_of_lt a3
    · exact Nat.ne_of_lt (hI2 p (.tail _ (.tail _ (.tail _ (.tail _ (.tail _ hp))))))
/-- the rows, read -/
theorem rows_reads {h : Heap} {aR : Addr} {rv : List Value} {kr : Nat} {ts : List Tree} (g : h.get? aR = some (W.listOf rv.toArray kr)) (hp : Paired (fun v t => RowP (fun a o => h.get? a = some o) v (flat t)) rv ts) : ∃ as, Reads h (.ref aR) (.list (ts.map fun t => rowD (flat t))) as := by
  have : ∃ as, ReadsAll h rv (ts.map fun t => rowD (flat t)) as := by
    clear g
    induction hp with
    | nil => exact ⟨_, .nil⟩
    | cons q _ ih =>
      obtain ⟨as, r1⟩ := row_reads q
      obtain ⟨bs, r2⟩ := ih
      exact ⟨_, .cons r1 r2⟩
  obtain ⟨as, q⟩ := this
  exact ⟨_, reads_list_at g rfl rfl q⟩
theorem rows_sh (ts : List Tree) : SeqAt.shaped (.list (ts.map fun t => rowD (flat t))) = true := by
  have h1 : PyData.canLayAll0 (ts.map fun t => rowD (flat t)) = true := by
    induction ts with
    | nil => simp [PyData.canLayAll0]
    | cons t ts ih =>
      have : (rowD (flat t)).canLay0 = true := by simp [rowD, PyData.canLay0, row_lay]
      simp [PyData.canLayAll0, this, ih]
  have h2 : PyData.depthAll (ts.map fun t => rowD (flat t)) ≤ 2 := by
    induction ts with
    | nil => simp [PyData.depthAll]
    | cons t ts ih =>
      have : (rowD (flat t)).depth ≤ 2 := by have := row_depth (flat t); simp only [rowD, PyData.depth]; omega
      have h3 := ih (by simp [PyData.canLayAll0] at h1 ⊢; exact h1.2)
      simp only [List.map_cons, PyData.depthAll]; omega
  simp [SeqAt.shaped, PyData.canLay0, h1, PyData.depth]
  omega
theorem rows_empty (ts : List Tree) : PyData.eqv (.list (ts.map fun t => rowD (flat t))) (.list []) = ts.isEmpty := by
  cases ts <;> simp [PyData.eqv, PyData.eqvAll]
/-- ahead of a choice -/
def PreC (s : Shared) (L' : Addr) (num : Nat) (tn : Tok) (xv : Int) (txv : Tok) (i : Nat) (tk1 : Tok) (aN aR : Addr) (rv : List Value) (kr : Nat) (I : Addr) (it : Obj) (old0 : List (Addr × Obj)) (I2 : Addr) (o2 : Obj) (aRow : Addr) (old : List (Addr × Obj)) (r : Row) (n : Nat) (s' : Shared) : Prop :=
  ∃ h tk m vs kv c tc, s' = { s with heap := h, toks := tk } ∧ Fr s.heap L' h (known [(Str.ofString "choice", .int ((c : Nat) : Int) tc), (Str.ofString "number", .int (num : Int) tn), (Str.ofString "row", .ref aRow), (Str.ofString "x", .int xv txv), (Str.ofString "place", .int (i : Int) tk1), (Str.ofString "numbers", .ref aN), (Str.ofString "rows", .ref aR)] m) ∧
    News s.heap L' h ((I2, o2) :: (aRow, W.listOf (List.toArray vs) kv) :: (I, it) :: (aR, W.listOf rv.toArray kr) :: old) ∧ (∀ p ∈ old0, p ∈ old) ∧ InTurn I2 aRow I aR old ∧ Paired (CellP fun a o => (a, o) ∈ old) vs r ∧ vs.length ≤ n
/-- behind it -/
def PostC (s : Shared) (L' : Addr) (num : Nat) (tn : Tok) (xv : Int) (txv : Tok) (i : Nat) (tk1 : Tok) (aN aR : Addr) (rv : List Value) (kr : Nat) (I : Addr) (it : Obj) (I2 : Addr) (o2 : Obj) (old : List (Addr × Obj)) (r : Row) (n : Nat) (s' : Shared) : Prop :=
  ∃ h tk m aRow vs kv old2 t, s' = { s with heap := h, toks := tk } ∧ Fr s.heap L' h (known [(Str.ofString "number", .int (num : Int) tn), (Str.ofString "row", .ref aRow), (Str.ofString "x", .int xv txv), (Str.ofString "place", .int (i : Int) tk1), (Str.ofString "numbers", .ref aN), (Str.ofString "rows", .ref aR)] m) ∧
    News s.heap L' h ((I2, o2) :: (aRow, W.listOf (List.toArray vs) kv) :: (I, it) :: (aR, W.listOf rv.toArray kr) :: old2) ∧ (∀ p ∈ old, p ∈ old2) ∧ InTurn I2 aRow I aR old2 ∧ Paired (CellP fun a o => (a, o) ∈ old2) vs (r ++ flat t) ∧ plainR (flat t) ∧ (flat t).length ≤ 10 ∧ vs.length ≤ n + 10
theorem news_drop2 {h₀ h : Heap} {L : Addr} {c e : Addr × Obj} {old : List (Addr × Obj)} (N : News h₀ L h (c :: e :: old)) : News h₀ L h (c :: old) := fun p hp => N p (by rcases List.mem_cons.mp hp with rfl | hp; exact .head _; exact .tail _ (.tail _ hp))
section
variable {s : Shared} {L' : Addr} {num : Nat} {tn : Tok} {xv : Int} {txv : Tok} {i : Nat} {tk1 : Tok} {aN aR : Addr} {rv : List Value} {kr : Nat} {I : Addr} {it : Obj} {I2 : Addr} {o2 : Obj} {old : List (Addr × Obj)} {r : Row} {n : Nat} {h : Heap} {tk : Nat} {m : Str → Option Value} {aRow D : Addr} {vs uj : List Value} {kv kd : Nat}
theorem post_add {t : Tree} {oD : Obj} (F : Fr s.heap L' h (known [(Str.ofString "number", .int (num : Int) tn), (Str.ofString "row", .ref D), (Str.ofString "x", .int xv txv), (Str.ofString "place", .int (i : Int) tk1), (Str.ofString "numbers", .ref aN), (Str.ofString "rows", .ref aR)] m))
    (N : News s.heap L' h ((D, W.listOf (vs ++ uj).toArray 0) :: (I2, o2) :: (aRow, oD) :: (I, it) :: (aR, W.listOf rv.toArray kr) :: old)) (q : @LT.lt Nat _ I2 D ∧ @LT.lt Nat _ aRow D ∧ @LT.lt Nat _ I D ∧ @LT.lt Nat _ aR D ∧ AllLt D old) (iT : InTurn I2 aRow I aR old)
    (hc : Paired (CellP fun a o => (a, o) ∈ old) vs r) (hj : Paired (CellP fun a o => (a, o) ∈ old) uj (flat t)) (hp : plainR (flat t)) (ht : (flat t).length ≤ 10) (hv : vs.length ≤ n) :
    PostC s L' num tn xv txv i tk1 aN aR rv kr I it I2 o2 old r n { s with heap := h, toks := tk } := by
  obtain ⟨d1, d2, d3, d4, d5, f1, f2, f3, f4⟩ := iT
  have hl := Paired.len hj
  refine ⟨h, tk, m, D, vs ++ uj, 0, old, t, rfl, F, news_sub N (by intro p hp; simp only [List.mem_cons] at hp ⊢; grind), fun _ q => q, ⟨Nat.ne_of_gt q.1, Nat.ne_of_gt q.2.2.1, Nat.ne_of_gt q.2.2.2.1, d4, d5, fun p hp => Nat.ne_of_lt (allLt_mem q.2.2.2.2 p hp), f2, f3, f4⟩, paired_append hc hj, hp, ht, ?_⟩
  rw [List.length_append]; omega
theorem post_app {a : Atom} {va : Value} (F : Fr s.heap L' h (known [(Str.ofString "number", .int (num : Int) tn), (Str.ofString "row", .ref aRow), (Str.ofString "x", .int xv txv), (Str.ofString "place", .int (i : Int) tk1), (Str.ofString "numbers", .ref aN), (Str.ofString "rows", .ref aR)] m))
    (N : News s.heap L' h ((D, W.listOf #[va] kd) :: (I2, o2) :: (aRow, W.listOf (vs.toArray.push (.ref D)) kv) :: (I, it) :: (aR, W.listOf rv.toArray kr) :: old)) (q : @LT.lt Nat _ I2 D ∧ @LT.lt Nat _ aRow D ∧ @LT.lt Nat _ I D ∧ @LT.lt Nat _ aR D ∧ AllLt D old) (iT : InTurn I2 aRow I aR old)
    (hc : Paired (CellP fun a o => (a, o) ∈ old) vs r) (hat : IsAtom va a) (hp : plainA a) (hv : vs.length ≤ n) :
    PostC s L' num tn xv txv i tk1 aN aR rv kr I it I2 o2 old r n { s with heap := h, toks := tk } := by
  obtain ⟨d1, d2, d3, d4, d5, f1, f2, f3, f4⟩ := iT
  rw [List.push_toArray] at N
  refine ⟨h, tk, m, aRow, vs ++ [.ref D], kv, (D, W.listOf #[va] kd) :: old, .leaf a, rfl, F, news_sub N (by intro p hp; simp only [List.mem_cons] at hp ⊢; grind), fun _ q => .tail _ q, ⟨d1, d2, d3, d4, d5, ?_, ?_, ?_, ?_⟩, paired_append (Paired.mono' hc fun _ _ q => q.mono fun a o q => .tail _ q) (.cons ⟨D, [va], kd, rfl, .head _, .cons hat .nil⟩ .nil), ?_, by simp [flat], by rw [List.length_append]; simp; omega⟩
  · intro p hp
    rcases List.mem_cons.mp hp with rfl | hp
    · exact Nat.ne_of_gt q.2.1
    · exact f1 p hp
  · intro p hp
    rcases List.mem_cons.mp hp with rfl | hp
    · exact Nat.ne_of_gt q.2.2.1
    · exact f2 p hp
  · intro p hp
    rcases List.mem_cons.mp hp with rfl | hp
    · exact Nat.ne_of_gt q.2.2.2.1
    · exact f3 p hp
  · intro p hp
    rcases List.mem_cons.mp hp with rfl | hp
    · exact Nat.ne_of_gt q.1
    · exact f4 p hp
  · intro b hb
    simp only [flat, List.mem_singleton, Option.some.injEq] at hb
    subst hb; exact hp
end
theorem inturn_off {I2 aRow I aR : Addr} {oW it oR : Obj} {old : List (Addr × Obj)} {o2 : Obj} (h : InTurn I2 aRow I aR old) : ∀ p ∈ (aRow, oW) :: (I, it) :: (aR, oR) :: old, ∀ q ∈ [(I2, o2)], p.1 ≠ q.1 := by
  obtain ⟨d1, d2, d3, d4, d5, f1, f2, f3, f4⟩ := h
  intro p hp q hq
  rw [List.mem_singleton.mp hq]
  simp only [List.mem_cons] at hp
  rcases hp with rfl | rfl | rfl | hp
  · exact d1
  · exact d4
  · exact d5
  · exact f4 p hp
theorem absorb {h₀ h : Heap} {L : Addr} {i r : Addr × Obj} {es old : List (Addr × Obj)} (N : News h₀ L h (es ++ i :: r :: old)) (hi : ∀ p ∈ old, p.1 ≠ i.1) (hr : ∀ p ∈ old, p.1 ≠ r.1) (a : ∀ e ∈ es, ∀ q ∈ i :: r :: old, e.1 ≠ q.1) :
    ∃ old2, (∀ p ∈ old, p ∈ old2) ∧ (∀ p ∈ es, p ∈ old2) ∧ News h₀ L h (i :: r :: old2) ∧ (∀ p ∈ old2, p.1 ≠ i.1) ∧ (∀ p ∈ old2, p.1 ≠ r.1) := by
  refine ⟨es ++ old, fun p hp => List.mem_append_right _ hp, fun p hp => List.mem_append_left _ hp, news_sub N ?_, ?_, ?_⟩
  · intro p hp; simp only [List.mem_cons, List.mem_append] at hp ⊢; grind
  · intro p hp
    rcases List.mem_append.mp hp with hp | hp
    · exact a p hp _ (.head _)
    · exact hi p hp
  · intro p hp
    rcases List.mem_append.mp hp with hp | hp
    · exact a p hp _ (.tail _ (.head _))
    · exact hr p hp
theorem row_done {h₀ h : Heap} {L I2 aRow I aR : Addr} {it oR : Obj} {vs : List Value} {kv : Nat} {old : List (Addr × Obj)} {r : Row} {t : Tree} (N : News h₀ L h ((aRow, W.listOf vs.toArray kv) :: (I, it) :: (aR, oR) :: old)) (iT : InTurn I2 aRow I aR old) (hc : Paired (CellP fun a o => (a, o) ∈ old) vs r) (hr : r = flat t) :
    ∃ old2, (∀ p ∈ old, p ∈ old2) ∧ News h₀ L h ((I, it) :: (aR, oR) :: old2) ∧ (∀ p ∈ old2, p.1 ≠ I) ∧ (∀ p ∈ old2, p.1 ≠ aR) ∧ (aRow, W.listOf vs.toArray kv) ∈ old2 ∧ Paired (CellP fun a o => (a, o) ∈ old2) vs (flat t) := by
  obtain ⟨d1, d2, d3, d4, d5, f1, f2, f3, f4⟩ := iT
  subst hr
  refine ⟨(aRow, W.listOf vs.toArray kv) :: old, fun p hp => .tail _ hp, news_sub N ?_, ?_, ?_, .head _, Paired.mono' hc fun _ _ q => q.mono fun a o q => .tail _ q⟩
  · intro p hp; simp only [List.mem_cons] at hp ⊢; grind
  · intro p hp
    rcases List.mem_cons.mp hp with rfl | hp
    · exact d2
    · exact f2 p hp
  · intro p hp
    rcases List.mem_cons.mp hp with rfl | hp
    · exact d3
    · exact f3 p hp
theorem plain_node {x y z : Tree} (h1 : plainR (flat x)) (h2 : plainR (flat y)) (h3 : plainR (flat z)) : plainR (flat (.node x y z)) := by
  intro a ha
  simp only [flat, List.mem_cons, List.mem_append] at ha
  rcases ha with ha | ha | ha | ha
  · cases ha
  · exact h1 a ha
  · exact h2 a ha
  · exact h3 a ha
theorem off_three {D a : Addr} {oD oa : Obj} {tl news : List (Addr × Obj)} (h1 : ∀ p ∈ tl, ∀ q ∈ news, p.1 ≠ q.1) (h2 : ∀ q ∈ news, D ≠ q.1) (h3 : ∀ q ∈ news, a ≠ q.1) : ∀ e ∈ (D, oD) :: (a, oa) :: tl, ∀ q ∈ news, e.1 ≠ q.1 := by
  intro e he q hq
  simp only [List.mem_cons] at he
  rcases he with rfl | rfl | he
  · exact h2 q hq
  · exact h3 q hq
  · exact h1 e he q hq
theorem drop1 {h₀ h : Heap} {L : Addr} {e : Addr × Obj} {old : List (Addr × Obj)} (N : News h₀ L h (e :: old)) : News h₀ L h old := fun p hp => N p (.tail _ hp)
/-- a new cell joins the block's ledger -/
theorem elt_new {h₀ h : Heap} {L I C D b : Addr} {oI oC oD ob : Obj} {old : List (Addr × Obj)} (N : News h₀ L h ((b, ob) :: (I, oI) :: (C, oC) :: (D, oD) :: old)) (q : @LT.lt Nat _ I b ∧ @LT.lt Nat _ C b ∧ @LT.lt Nat _ D b ∧ AllLt b old) :
    News h₀ L h ((I, oI) :: (C, oC) :: (D, oD) :: ([(b, ob)] ++ old)) ∧ (∀ p ∈ [(b, ob)], p.1 ≠ I ∧ p.1 ≠ C ∧ p.1 ≠ D) ∧ ∀ p ∈ [(b, ob)], ∀ q ∈ old, p.1 ≠ q.1 := by
  refine ⟨news_sub N (by intro p hp; simp only [List.mem_cons, List.mem_append, List.mem_nil_iff, or_false] at hp ⊢; grind), fun p hp => ?_, fun p hp r hr => ?_⟩
  · rw [List.mem_singleton.mp hp]
    exact ⟨Nat.ne_of_gt q.1, Nat.ne_of_gt q.2.1, Nat.ne_of_gt q.2.2.1⟩
  · rw [List.mem_singleton.mp hp]
    exact Nat.ne_of_gt (allLt_mem q.2.2.2 r hr)
theorem eq_none_nil : PyData.eqv (cellD Option.none) (PyData.list []) = true := by simp [cellD, PyData.eqv, PyData.eqvAll]
theorem eq_some_nil (a : Atom) : PyData.eqv (cellD (some a)) (PyData.list []) = false := by simp [cellD, PyData.eqv, PyData.eqvAll]
theorem words_at {t : Tree} {i : Nat} {c c' : Option Atom} (h : (flat t)[i]? = some c) (h' : (wordsR t)[i]? = some c') : c' = Option.map wordA c := by
  simp only [wordsR, List.getElem?_map, h, Option.map_some, Option.some.injEq] at h'
  exact h'.symm
theorem words_len (t : Tree) : (wordsR t).length = (flat t).length := by simp [wordsR]
theorem comp_done {h₀ h : Heap} {L I aR D : Addr} {it oR : Obj} {ys : List Value} {tl old : List (Addr × Obj)} {r : Row} (N : News h₀ L h ((D, LCg.lst ys) :: (tl ++ (I, it) :: (aR, oR) :: old))) (off : LCg.Off1 D (tl ++ (I, it) :: (aR, oR) :: old)) (hi : ∀ p ∈ old, p.1 ≠ I) (hr : ∀ p ∈ old, p.1 ≠ aR)
    (ht : ∀ p ∈ tl, ∀ q ∈ (I, it) :: (aR, oR) :: old, p.1 ≠ q.1) (hc : Paired (CellP fun a o => (a, o) ∈ tl ++ (I, it) :: (aR, oR) :: old) ys r) :
    ∃ old2, (∀ p ∈ old, p ∈ old2) ∧ News h₀ L h ((D, W.listOf ys.toArray ys.length) :: (I, it) :: (aR, oR) :: old2) ∧ (∀ p ∈ old2, p.1 ≠ I) ∧ (∀ p ∈ old2, p.1 ≠ aR) ∧ (∀ p ∈ old2, p.1 ≠ D) ∧ (@Ne Nat D I) ∧ (@Ne Nat D aR) ∧ Paired (CellP fun a o => (a, o) ∈ (I, it) :: (aR, oR) :: old2) ys r := by
  have o1 := off1_mem off
  refine ⟨tl ++ old, fun p hp => List.mem_append_right _ hp, news_sub N ?_, ?_, ?_, ?_, ?_, ?_, Paired.mono' hc fun _ _ q => q.mono fun a o q => ?_⟩
  · intro p hp
    simp only [List.mem_cons, List.mem_append] at hp ⊢
    rcases hp with rfl | rfl | rfl | hp | hp
    · exact .inl rfl
    · exact .inr (.inr (.inl rfl))
    · exact .inr (.inr (.inr (.inl rfl)))
    · exact .inr (.inl hp)
    · exact .inr (.inr (.inr (.inr hp)))
  · intro p hp
    rcases List.mem_append.mp hp with hp | hp
    · exact ht p hp _ (.head _)
    · exact hi p hp
  · intro p hp
    rcases List.mem_append.mp hp with hp | hp
    · exact ht p hp _ (.tail _ (.head _))
    · exact hr p hp
  · intro p hp
    rcases List.mem_append.mp hp with hp | hp
    · exact o1 p (List.mem_append_left _ hp)
    · exact o1 p (List.mem_append_right _ (.tail _ (.tail _ hp)))
  · exact fun e => o1 (I, it) (List.mem_append_right _ (.head _)) e.symm
  · exact fun e => o1 (aR, oR) (List.mem_append_right _ (.tail _ (.head _))) e.symm
  · simp only [List.mem_cons, List.mem_append] at q ⊢
    rcases q with q | q | q | q
    · exact .inr (.inr (.inl q))
    · exact .inl q
    · exact .inr (.inl q)
    · exact .inr (.inr (.inr q))
theorem setL_at : ∀ (ys : List Value) (k : Nat) (v : Value), k < ys.length → ki_setL ys k v = some (ys.set k v)
  | [], _, _, h => by simp at h
  | _ :: _, 0, _, _ => rfl
  | y :: ys, k + 1, v, h => by
    have := setL_at ys k v (by simpa using h)
    simp [ki_setL, this]
theorem paired_set {α β : Type} {P : α → β → Prop} {l : List α} {k : List β} (h : Paired P l k) {a : α} {b : β} (p : P a b) : ∀ i, Paired P (l.set i a) (k.set i b) := by
  induction h with
  | nil => intro i; simpa using Paired.nil
  | cons q r ih =>
    intro i
    cases i with
    | zero => simpa using .cons p r
    | succ i => simpa using .cons q (ih i)
theorem told_done {h₀ h : Heap} {L I aR D lB : Addr} {it oR oD oB : Obj} {e : Addr × Obj} {old : List (Addr × Obj)} (N : News h₀ L h ((lB, oB) :: e :: (D, oD) :: (I, it) :: (aR, oR) :: old)) (hi : ∀ p ∈ old, p.1 ≠ I) (hr : ∀ p ∈ old, p.1 ≠ aR) (d1 : @Ne Nat D I) (d2 : @Ne Nat D aR) (l1 : @LT.lt Nat _ I lB) (l2 : @LT.lt Nat _ aR lB) :
    ∃ old2, (∀ p ∈ old, p ∈ old2) ∧ (lB, oB) ∈ old2 ∧ (D, oD) ∈ old2 ∧ News h₀ L h ((I, it) :: (aR, oR) :: old2) ∧ (∀ p ∈ old2, p.1 ≠ I) ∧ (∀ p ∈ old2, p.1 ≠ aR) := by
  refine ⟨(lB, oB) :: (D, oD) :: old, fun p hp => .tail _ (.tail _ hp), .head _, .tail _ (.head _), news_sub N ?_, ?_, ?_⟩
  · intro p hp; simp only [List.mem_cons] at hp ⊢; grind
  · intro p hp
    simp only [List.mem_cons] at hp
    rcases hp with rfl | rfl | hp
    · exact Nat.ne_of_gt l1
    · exact d1
    · exact hi p hp
  · intro p hp
    simp only [List.mem_cons] at hp
    rcases hp with rfl | rfl | hp
    · exact Nat.ne_of_gt l2
    · exact d2
    · exact hr p hp
theorem isB (t : Tok) : IsAtom (.str (Str.ofString "B") t) atomB := by
  have e : Str.ofString "B" = strOf [66] := by decide +kernel
  rw [e]; exact .str _ _ _
theorem eq_txt {prog : Program} {w : World} {A : Around} {E : Value → Shared → Prop} {s : Shared} {x y : Str} {t u : Tok} {b : Bool} {Q : Value → Shared → Prop} (hb : (x == y) = b) (h : Q (.bool b) s) :
    wpAny (model prog w) A (compareOp .Eq (.str x t) (.str y u)) Q E s := PyProof.Rows.eq_str (by rw [hb]; exact h)
theorem node_of {t : Tree} (h : t.isNode = true) : ∃ x y z, t = .node x y z := by cases t with | leaf a => cases h | node x y z => exact ⟨_, _, _, rfl⟩
theorem cells_set {i r : Addr × Obj} {old old2 : List (Addr × Obj)} {ys : List Value} {fr : Row} {lB : Addr} {tB : Tok} {kB : Nat} (hm : (lB, W.listOf #[.str (Str.ofString "B") tB] kB) ∈ old2) (hc : Paired (CellP fun a o => (a, o) ∈ i :: r :: old) ys fr) (sub : ∀ p ∈ old, p ∈ old2) (k : Nat) :
    Paired (CellP fun a o => (a, o) ∈ i :: r :: old2) (ys.set k (.ref lB)) (fr.set k (some atomB)) := by
  refine paired_set (Paired.mono' hc fun _ _ q => q.mono fun a o q => ?_) ⟨lB, [.str (Str.ofString "B") tB], kB, rfl, .tail _ (.tail _ hm), .cons (isB _) .nil⟩ k
  rcases List.mem_cons.mp q with q | q
  · exact q ▸ .head _
  · rcases List.mem_cons.mp q with q | q
    · exact q ▸ .tail _ (.head _)
    · exact .tail _ (.tail _ (sub _ q))
theorem once {M : Model} {A : Around} {E : Value → Shared → Prop} {st : Sem Flow} {Q : Flow → Shared → Prop} {s₀ : Shared} (K : Model → Around → (Value → Shared → Prop) → Sem Flow → Prop) (key : K M A E st) (k : K M A E st → wpAny M A st Q E s₀) : wpAny M A st Q E s₀ := k key
theorem law_call {w : World} {s : Shared} {mean : ExcName → Option Value} {mg mb : Str → Option Value} {R : Result → Shared → Prop} {asc : Addr} {vs : List Value} {ns : List Int}
    (X : (hd.heap_39 w.params).In s.heap) (T : TopAt mean mg mb s.heap) (hl : s.heap.IsList asc vs.toArray) (hi : IntsAre vs ns) (hn : ns.length ≤ 63)
    (hR : ∀ h' tk, (∀ b o, s.heap.get? b = some o → h'.get? b = some o) → R (.ok (.ret (.bool true))) { s with heap := h', toks := tk }) :
    codeAny (model PySem.Challenge.rw_dn0319_05.row.toRowW.prog w) callerA (.call (.ref 78) ⟨[.ref asc], []⟩) R s := by
  show codeAny _ (ar 301 4 (some []) []) _ _ _
  have B : Below (ar 301 4 (some []) []) s.heap [] s.heap := ⟨rfl, fun _ _ e => e, trivial⟩
  revert X; k_fill; intro X
  k_dflt (refine' enter0 X T.nolimit ?k6 ?k7 ?k8 ?k9 ?kB ?_ ?c2 ?c3 ?c4 ?c5; (case k6 => k_is); (case k7 => k_is); (case k8 => decide); (case k9 => exact BindsTo.of_eq rfl); (case c5 => decide); (case kB => exact locs rfl); (case c2 => exact rfl); (case c3 => exact rfl); (case c4 => exact rfl); k_whole; intro h' L' F' N')
  refine wpAny_noRaise ?_
  k_fold
  have hvl : vs.length = ns.length := hi.length
  walk_at "mine to call"
  rename Fr _ _ _ _ => F1
  rename News _ _ _ _ => N1
  rename IntsAre _ (List.take _ _) => hI1
  obtain ⟨old0, N2, off0, hmN0⟩ := abs_law N1 (by omega) (by omega) (by omega)
  have hnl : (List.take 32 ([5, -7] ++ ns)).length ≤ 32 := by simp only [List.length_take]; omega
  obtain ⟨aN, nvs, nn, m1, F2, hI2, hnl2, hmN1⟩ := abs_num F1 rfl rfl hI1 hnl hmN0
  simp only [known] at F2
  have hnl3 := hI2.length
  clear N1 F1 hnl hI1 hmN0 hvl
  repeat (rename True => hz; clear hz)
  repeat (rename _ < _ => hz; clear hz)
  repeat (rename _ < _ ∧ _ => hz; clear hz)
  repeat (rename IntsAre _ (_ ++ _) => hz; clear hz)
  repeat (rename (List.take _ _).length = _ => hz; clear hz)
  repeat (rename (List.take _ _).length ≤ _ => hz; clear hz)
  clear hl hi hn
  k_dflt (refine For_invVF F2 rfl rfl ?_ (fun _ => rfl) PassesOwn.never)
  have memN0 := mem1 N2 hmN1
  walk_at "mine to iter"
  rename IsRange _ _ _ _ _ _ _ _ => hrng
  rename Fr _ _ _ _ => F3
  rename News _ _ _ _ => N3
  k_dflt (refine loop_range (n := nn.length) rfl hrng (by omega) (by omega) F3 N3 (RowsAt aN nvs) ⟨_, [], [], 0, old0, rfl, rfl, rfl, off0, hmN1, .nil, by decide, by simp⟩ ?_ ?_)
  · (try clear N2); (try clear F2); clear N3 F3 off0 hmN1 memN0 hrng
    rintro i tk1 m1 nw I it h2 tk2 hi1 ⟨aR, rv, ts, kr, old, e1, e2, rfl, offR, hmN, hrv, htsi, hts⟩ hoff F2 N2
    obtain ⟨xv, txv, hxv⟩ := ints_get (‹IntsAre nvs nn›) i hi1
    replace F2 := fr_known [(Str.ofString "place", _), (Str.ofString "numbers", _), (Str.ofString "rows", _)] F2 (by simp only [List.forall_mem_cons]; exact ⟨rfl, e2, e1, List.forall_mem_nil _⟩)
    simp only [known] at F2
    have memN := mem2 N2 hmN
    have hrl := Paired.len hrv
    walk_at "mine to call"
    rename Fr s.heap L' _ _ => F3
    rename News s.heap L' _ _ => N3
    rename _ < _ ∧ _ < _ ∧ AllLt _ old => q1
    rename _ < _ ∧ _ < _ ∧ _ < _ ∧ AllLt _ old => q2
    clear F2 N2
    obtain ⟨num, hnum⟩ : ∃ num : Nat, ((if xv < 0 then - xv else xv) + 11 * ((i : Nat) : Int)) = (num : Int) := ⟨_, (Int.toNat_of_nonneg (by split <;> omega)).symm⟩
    obtain ⟨tn, en⟩ := fr_int (x := Str.ofString "number") F3 rfl hnum
    obtain ⟨m3, F4⟩ := fr_cut [(Str.ofString "number", _), (Str.ofString "row", _), (Str.ofString "x", .int xv txv), (Str.ofString "place", .int (i : Int) tk1), (Str.ofString "numbers", .ref aN), (Str.ofString "rows", .ref aR)] F3 (by simp only [List.forall_mem_cons]; exact ⟨en, rfl, rfl, rfl, rfl, rfl, List.forall_mem_nil _⟩)
    simp only [known] at F4
    clear F3 en e1 e2
    k_dflt (refine For_turns F4 ?_ (fun _ => rfl) PassesOwn.never)
    walk_at "mine to iter"
    rename Fr s.heap L' _ _ => F5
    rename News s.heap L' _ _ => N5
    rename _ < _ ∧ _ < _ ∧ _ < _ ∧ _ < _ ∧ AllLt _ old => q3
    k_dflt (refine iter_listTurns (vs := [_, _, _]) rfl F5 N5 (.head _) rfl rfl ?_)
    intro I2 hI2
    refine ItemsRest.val ?_
    intro hq1 tq1 Fq1 o1 ho1 Nq1
    simp only [List.cons_append, List.nil_append] at Nq1
    obtain ⟨vs1, kv1, old1, Nt1, sub1, hmL1, it1, hc1, hv1⟩ := start_turn Nq1 hI2 q3 q2 q1 hoff offR
    clear Nq1 N5 F5 hI2
    walk_at "mine to if"
    rename Fr s.heap L' _ _ => Fi
    rename News s.heap L' _ _ => Ni
    clear Fq1 Nt1
    refine once (fun M A E st => ∀ I2 o2 aRow oldc r n s', PreC s L' num tn xv txv i tk1 aN aR rv kr I it old I2 o2 aRow oldc r n s' → n ≤ 100 → wpAny M A st (Joined (PostC s L' num tn xv txv i tk1 aN aR rv kr I it I2 o2 oldc r n)) E s') ?_ ?_
    · clear it1 hc1 hv1 hmL1 sub1 q1 q2 q3
      rintro I2 o2 aRow oldc r n s' ⟨h, tk, m, vs, kv, c, tc, rfl, F, N, sub, ⟨d1, d2, d3, d4, d5, f1, f2, f3, f4⟩, hc, hvn⟩ hn100
      clear Fi Ni memN hoff hxv hmN offR ho1
      simp only [known] at F
      have hm3 : Int.fmod (c : Int) 3 = ((c % 3 : Nat) : Int) := by rw [show (3 : Int) = ((3 : Nat) : Int) from rfl, nat_fmod]
      have hrvh : ∀ (g : Heap), (∀ p ∈ oldc, g.get? p.1 = some p.2) → Paired (fun v t => RowP (fun a o => g.get? a = some o) v (flat t)) rv ts := fun g hg => Paired.mono' hrv fun _ _ q => q.mono fun a o q => hg _ (sub _ q)
      have hcase : c % 3 = 0 ∨ c % 3 = 1 ∨ c % 3 = 2 := by omega
      rcases hcase with h3 | h3 | h3
      · replace hm3 : Int.fmod (c : Int) 3 = 0 := by rw [hm3, h3]; rfl
        walk_at "mine to cmpr"
        rw [hm3]
        walk_at "mine to cmpr"
        rename Fr s.heap L' _ _ => F1
        rename News s.heap L' _ _ => N1
        rename _ < _ ∧ _ < _ ∧ _ < _ ∧ _ < _ ∧ AllLt _ oldc => q4
        obtain ⟨as, hrd⟩ := rows_reads (h := _) (News.get N1 (.tail _ (.tail _ (.tail _ (.tail _ (.head _)))))) (hrvh _ fun p hp => (N1 p (.tail _ (.tail _ (.tail _ (.tail _ (.tail _ hp)))))).1)
        k_dflt (refine ne_dataH hrd (reads_list_at (News.get N1 (.head _)) rfl rfl ReadsAll.nil) (rows_sh ts) (by decide) (by show 4 + 3 + 64 < cLine; decide) ?_)
        rw [rows_empty]
        cases ts with
        | nil =>
          simp only [List.isEmpty_nil, Bool.not_true]
          walk_at "mine to cmpr"
          rw [hm3]
          walk_at "mine to cmpr"
          all_goals
            rename Fr s.heap L' _ _ => F9
            rename News s.heap L' _ _ => N9
            rename _ < _ ∧ _ < _ ∧ _ < _ ∧ _ < _ ∧ _ < _ ∧ AllLt _ oldc => q9
            exact Joined.mk (post_app (fr_known [(Str.ofString "number", .int (num : Int) tn), (Str.ofString "row", .ref _), (Str.ofString "x", .int xv txv), (Str.ofString "place", .int (i : Int) tk1), (Str.ofString "numbers", .ref aN), (Str.ofString "rows", .ref aR)] F9 (by simp only [List.forall_mem_cons]; exact ⟨rfl, rfl, rfl, rfl, rfl, rfl, List.forall_mem_nil _⟩)) (news_drop2 N9) q9.2 ⟨d1, d2, d3, d4, d5, f1, f2, f3, f4⟩ hc (.int _ _) (.inl ⟨_, rfl, by first | exact small_pos _ | exact small_neg _⟩) hvn)
        | cons t0 tr =>
          simp only [List.isEmpty_cons, Bool.not_false]
          obtain ⟨j, hj⟩ : ∃ j, j = c / 3 % (t0 :: tr).length := ⟨_, rfl⟩
          have hj1 : j < (t0 :: tr).length := by rw [hj]; exact Nat.mod_lt _ (by simp)
          have ej : Int.fmod (Int.fdiv (c : Int) 3) (rv.length : Int) = (j : Int) := by rw [hrl, show (3 : Int) = ((3 : Nat) : Int) from rfl, nat_fdiv, nat_fmod, hj]
          obtain ⟨tj, htj⟩ : ∃ t, (t0 :: tr)[j]? = some t := ⟨_, List.getElem?_eq_getElem hj1⟩
          obtain ⟨vj, hvj, hrowj⟩ := paired_get hrv j tj htj
          obtain ⟨aj, uj, kj, rfl, hmj, hcj⟩ := hrowj
          obtain ⟨hj2, hj3, hj4⟩ := hts tj (List.mem_of_getElem? htj)
          have hujl := Paired.len hcj
          have memj : (aj, W.listOf uj.toArray kj) ∈ (I2, o2) :: (aRow, W.listOf vs.toArray kv) :: (I, it) :: (aR, W.listOf rv.toArray kr) :: oldc := .tail _ (.tail _ (.tail _ (.tail _ (sub _ hmj))))
          walk_at "mine to cmpr"
          rw [ej]
          walk_at "mine to cmpr"
          rename Fr s.heap L' _ _ => F9
          rename News s.heap L' _ _ => N9
          rename _ < _ ∧ _ < _ ∧ _ < _ ∧ _ < _ ∧ _ < _ ∧ AllLt _ oldc => q9
          exact Joined.mk (post_add (fr_known [(Str.ofString "number", .int (num : Int) tn), (Str.ofString "row", .ref _), (Str.ofString "x", .int xv txv), (Str.ofString "place", .int (i : Int) tk1), (Str.ofString "numbers", .ref aN), (Str.ofString "rows", .ref aR)] F9 (by simp only [List.forall_mem_cons]; exact ⟨rfl, rfl, rfl, rfl, rfl, rfl, List.forall_mem_nil _⟩)) (news_drop2 N9) q9.2 ⟨d1, d2, d3, d4, d5, f1, f2, f3, f4⟩ hc (Paired.mono' hcj fun _ _ q => q.mono fun a o q => sub _ q) hj3 hj4 hvn)
      · replace hm3 : Int.fmod (c : Int) 3 = 1 := by rw [hm3, h3]; rfl
        walk_at "mine to cmpr"
        rw [hm3]
        walk_at "mine to cmpr"
        rw [hm3]
        walk_at "mine to cmpr"
        rename News s.heap L' _ _ => N1
        obtain ⟨j, hj⟩ : ∃ j, j = c / 3 % 5 := ⟨_, rfl⟩
        have ej : Int.fmod (Int.fdiv (c : Int) 3) 5 = (j : Int) := by rw [show (3 : Int) = ((3 : Nat) : Int) from rfl, nat_fdiv, show (5 : Int) = ((5 : Nat) : Int) from rfl, nat_fmod, hj]
        rw [ej]
        obtain ⟨va, aa, hva, hat, hpl⟩ := menu_get j (by omega)
        k_dflt (refine item_at ⟨_, News.get N1 (.head _), rfl, _, rfl⟩ (by omega) (by omega) (by rw [Int.toNat_natCast]; exact hva) ?_)
        walk_at "mine to cmpr"
        rename Fr s.heap L' _ _ => F9
        rename News s.heap L' _ _ => N9
        rename _ < _ ∧ _ < _ ∧ _ < _ ∧ _ < _ ∧ _ < _ ∧ AllLt _ oldc => q9
        exact Joined.mk (post_app (fr_known [(Str.ofString "number", .int (num : Int) tn), (Str.ofString "row", .ref _), (Str.ofString "x", .int xv txv), (Str.ofString "place", .int (i : Int) tk1), (Str.ofString "numbers", .ref aN), (Str.ofString "rows", .ref aR)] F9 (by simp only [List.forall_mem_cons]; exact ⟨rfl, rfl, rfl, rfl, rfl, rfl, List.forall_mem_nil _⟩)) (news_drop2 N9) q9.2 ⟨d1, d2, d3, d4, d5, f1, f2, f3, f4⟩ hc hat hpl hvn)
      · replace hm3 : Int.fmod (c : Int) 3 = 2 := by rw [hm3, h3]; rfl
        walk_at "mine to cmpr"
        rw [hm3]
        walk_at "mine to cmpr"
        rw [hm3]
        walk_at "mine to cmpr"
        all_goals
          rename Fr s.heap L' _ _ => F9
          rename News s.heap L' _ _ => N9
          rename _ < _ ∧ _ < _ ∧ _ < _ ∧ _ < _ ∧ AllLt _ oldc => q9
          exact Joined.mk (post_app (fr_known [(Str.ofString "number", .int (num : Int) tn), (Str.ofString "row", .ref _), (Str.ofString "x", .int xv txv), (Str.ofString "place", .int (i : Int) tk1), (Str.ofString "numbers", .ref aN), (Str.ofString "rows", .ref aR)] F9 (by simp only [List.forall_mem_cons]; exact ⟨rfl, rfl, rfl, rfl, rfl, rfl, List.forall_mem_nil _⟩)) N9 q9 ⟨d1, d2, d3, d4, d5, f1, f2, f3, f4⟩ hc (.int _ _) (.inl ⟨_, rfl, by first | exact small_pos _ | exact small_neg _⟩) hvn)
    · intro key
      obtain ⟨r1, hr1⟩ : ∃ r : Row, r = [Option.none] := ⟨_, rfl⟩
      rw [← hr1] at hc1
      refine join _ (key I2 o1 _ old1 r1 10 _ ⟨_, _, _, vs1, kv1, num, _, rfl, fr_known [(Str.ofString "choice", _), (Str.ofString "number", .int (num : Int) tn), (Str.ofString "row", .ref _), (Str.ofString "x", .int xv txv), (Str.ofString "place", .int (i : Int) tk1), (Str.ofString "numbers", .ref aN), (Str.ofString "rows", .ref aR)] Fi (by simp only [List.forall_mem_cons]; exact ⟨rfl, rfl, rfl, rfl, rfl, rfl, rfl, List.forall_mem_nil _⟩), Ni, sub1, it1, hc1, by omega⟩ (by omega)) ?_
      rintro s' ⟨h2, tk2, m2, aRow2, vs2, kv2, old2, t1, rfl, Fj, Nj, subj1, it2, hcj1, hp1, hl1, hv2⟩
      dsimp only
      simp only [known] at Fj
      clear Fi Ni
      walk_at "mine to if"
      have sub2 : ∀ p ∈ old, p ∈ old2 := fun p hp => subj1 _ (sub1 _ hp)
      have hmL2 := subj1 _ hmL1
      obtain ⟨r2, hr2⟩ : ∃ r, r = r1 ++ flat t1 := ⟨_, rfl⟩
      have hc2 := hcj1
      rw [← hr2] at hc2
      clear hcj1 subj1
      refine unr_go _ Fj Nj (inturn_off it2) ⟨⟨.tail _ (.tail _ (.tail _ hmL2)), trivial⟩, ?_⟩
      clear Fj Nj
      refine ItemsRest.val ?_
      intro hq2 tq2 Fq2 o2 ho2 Nq2
      simp only [List.cons_append, List.nil_append] at Nq2
      walk_at "mine to if"
      rename Fr s.heap L' _ _ => Fi
      rename News s.heap L' _ _ => Ni
      obtain ⟨tc2, ec2⟩ := fr_int (x := Str.ofString "choice") (j := ((num / 5 : Nat) : Int)) Fi rfl (by rw [show (5 : Int) = ((5 : Nat) : Int) from rfl, nat_fdiv])
      (try clear Fq2); (try clear Nq2)
      refine join _ (key I2 o2 _ old2 r2 20 _ ⟨_, _, _, vs2, kv2, num / 5, _, rfl, fr_known [(Str.ofString "choice", _), (Str.ofString "number", .int (num : Int) tn), (Str.ofString "row", .ref _), (Str.ofString "x", .int xv txv), (Str.ofString "place", .int (i : Int) tk1), (Str.ofString "numbers", .ref aN), (Str.ofString "rows", .ref aR)] Fi (by simp only [List.forall_mem_cons]; exact ⟨ec2, rfl, rfl, rfl, rfl, rfl, rfl, List.forall_mem_nil _⟩), Ni, sub2, it2, hc2, by omega⟩ (by omega)) ?_
      rintro s' ⟨h3, tk3, m3, aRow3, vs3, kv3, old3, t2, rfl, Fj, Nj, subj2, it3, hcj2, hp2, hl2, hv3⟩
      dsimp only
      simp only [known] at Fj
      clear Fi Ni
      walk_at "mine to if"
      have sub3 : ∀ p ∈ old, p ∈ old3 := fun p hp => subj2 _ (sub2 _ hp)
      have hmL3 := subj2 _ hmL2
      obtain ⟨r3, hr3⟩ : ∃ r, r = r2 ++ flat t2 := ⟨_, rfl⟩
      have hc3 := hcj2
      rw [← hr3] at hc3
      clear hcj2 subj2
      refine unr_go _ Fj Nj (inturn_off it3) ⟨⟨.tail _ (.tail _ (.tail _ hmL3)), trivial⟩, ?_⟩
      clear Fj Nj
      refine ItemsRest.val ?_
      intro hq3 tq3 Fq3 o3 ho3 Nq3
      simp only [List.cons_append, List.nil_append] at Nq3
      walk_at "mine to if"
      rename Fr s.heap L' _ _ => Fi
      rename News s.heap L' _ _ => Ni
      obtain ⟨tc3, ec3⟩ := fr_int (x := Str.ofString "choice") (j := ((num / 11 : Nat) : Int)) Fi rfl (by rw [show (11 : Int) = ((11 : Nat) : Int) from rfl, nat_fdiv])
      (try clear Fq3); (try clear Nq3)
      refine join _ (key I2 o3 _ old3 r3 30 _ ⟨_, _, _, vs3, kv3, num / 11, _, rfl, fr_known [(Str.ofString "choice", _), (Str.ofString "number", .int (num : Int) tn), (Str.ofString "row", .ref _), (Str.ofString "x", .int xv txv), (Str.ofString "place", .int (i : Int) tk1), (Str.ofString "numbers", .ref aN), (Str.ofString "rows", .ref aR)] Fi (by simp only [List.forall_mem_cons]; exact ⟨ec3, rfl, rfl, rfl, rfl, rfl, rfl, List.forall_mem_nil _⟩), Ni, sub3, it3, hc3, by omega⟩ (by omega)) ?_
      rintro s' ⟨h4, tk4, m4, aRow4, vs4, kv4, old4, t3, rfl, Fj, Nj, subj3, it4, hcj3, hp3, hl3, hv4⟩
      dsimp only
      simp only [known] at Fj
      clear Fi Ni
      walk_at "mine to if"
      have sub4 : ∀ p ∈ old, p ∈ old4 := fun p hp => subj3 _ (sub3 _ hp)
      have hmL4 := subj3 _ hmL3
      obtain ⟨r4, hr4⟩ : ∃ r, r = r3 ++ flat t3 := ⟨_, rfl⟩
      have hc4 := hcj3
      rw [← hr4] at hc4
      clear hcj3 subj3
      refine unr_go _ Fj Nj (inturn_off it4) ⟨⟨.tail _ (.tail _ (.tail _ hmL4)), trivial⟩, ?_⟩
      clear Fj Nj
      refine ItemsRest.zero ?_
      intro hz tz Fz Nz
      dsimp only
      obtain ⟨old5, sub5, N5, offI5, offR5, hmRow, hcells⟩ := row_done (t := .node t1 t2 t3) Nz it4 hc4 (by rw [hr4, hr3, hr2, hr1]; simp [flat])
      obtain ⟨m5, F5⟩ := fr_cut [(Str.ofString "number", .int (num : Int) tn), (Str.ofString "row", .ref aRow4), (Str.ofString "numbers", .ref aN), (Str.ofString "rows", .ref aR)] Fz (by simp only [List.forall_mem_cons]; exact ⟨rfl, rfl, rfl, rfl, List.forall_mem_nil _⟩)
      simp only [known] at F5
      have hplain := plain_node hp1 hp2 hp3
      have hlen31 : (flat (.node t1 t2 t3)).length ≤ 31 := by simp only [flat, List.length_cons, List.length_append]; omega
      have hmN5 := sub5 _ (sub4 _ hmN)
      have hrv5 : Paired (fun v t => RowP (fun a o => (a, o) ∈ old5) v (flat t)) rv ts := Paired.mono' hrv fun _ _ q => q.mono fun a o q => sub5 _ (sub4 _ q)
      have hgood := good_of_plain hplain
      have hsz := flat_len (.node t1 t2 t3)
      have hRI : @Ne Nat aR I := hoff _ (.head _)
      clear key q1 q2 q3 ho1 ho2 ho3 hmL1 hmL2 hmL3 hmL4 it1 it2 it3 it4 hc1 hc2 hc3 hc4 sub1 sub2 sub3 sub4 sub5 ec2 ec3 hr1 hr2 hr3 hr4 hv1 hv2 hv3 hv4 hp1 hp2 hp3 hl1 hl2 hl3 Nz Fz offR hmN hrv hoff hxv memN
      walk_at "mine to call"
      k_dflt (refine use_made (t := .node t1 t2 t3) X T (by decide) (by decide) (B.push F5) F5 N5 ⟨_, _, _, rfl, mem2 N5 hmRow, Paired.mono' hcells fun _ _ q => q.mono fun a o q => mem2 N5 q⟩ (by omega) ?_)
      intro qv tl6 h6 tk6 F6 N6 off6 htree
      obtain ⟨old6, sub6, hes6, N7, offI6, offR6⟩ := absorb N6 offI5 offR5 off6
      replace htree : TreeP (fun a o => (a, o) ∈ old6) qv (.node t1 t2 t3) := htree.mono fun a o q => hes6 _ q
      clear F5 N5 N6 off6 hes6 offI5 offR5
      walk_at "mine to call"
      rename Fr s.heap L' _ _ => F7
      rename News s.heap L' _ _ => N7
      (try clear F6)
      k_dflt (refine use_repr (dp := 302) (un := 7) X T (by show _ < 1000; omega) (by show _ < 9900; omega) F7 N7 (htree.mono fun a o q => mem2 N7 q) hgood (by omega) ?_)
      intro h8 u8 tk8 F8 N8
      clear F7 N7
      walk_at "mine to call"
      rename Fr s.heap L' _ _ => F9
      rename News s.heap L' _ _ => N9
      have htl := good_len hgood
      k_dflt (refine use_read (dp := 302) (un := 7) (l := txtT (.node t1 t2 t3)) (pre := []) (rest := []) (read_tree _) X T (by show _ < 1000; omega) (by show _ < 9900; omega) F9 N9 (by simp) hgood (by omega) (by omega) (by simp) ?_)
      intro aT Dt us10 tl10 k10 t10 h10 tk10 F10 N10 off10 offD10 offa10 hc10
      clear F9 N9
      walk_at "mine to call"
      rename Fr s.heap L' _ _ => F11
      rename News s.heap L' _ _ => N11
      obtain ⟨old7, sub7, hes7, N12, offI7, offR7⟩ := absorb (es := _ :: _ :: tl10) N11 offI6 offR6 (off_three off10 offD10 offa10)
      have hmT := hes7 _ (.tail _ (.head _))
      replace hc10 : Paired (CellP fun a o => (a, o) ∈ old7) us10 (wordsR (.node t1 t2 t3)) := Paired.mono' hc10 fun _ _ q => q.mono fun a o q => hes7 _ (.tail _ (.tail _ q))
      replace htree : TreeP (fun a o => (a, o) ∈ old7) qv (.node t1 t2 t3) := htree.mono fun a o q => sub7 _ q
      have hmRow7 := sub7 _ (sub6 _ hmRow)
      have hmN7 := sub7 _ (sub6 _ hmN5)
      have hcells7 : Paired (CellP fun a o => (a, o) ∈ old7) vs4 (flat (.node t1 t2 t3)) := Paired.mono' hcells fun _ _ q => q.mono fun a o q => sub7 _ (sub6 _ q)
      have hrv7 : Paired (fun v t => RowP (fun a o => (a, o) ∈ old7) v (flat t)) rv ts := Paired.mono' hrv5 fun _ _ q => q.mono fun a o q => sub7 _ (sub6 _ q)
      obtain ⟨m12, F12⟩ := fr_cut [(Str.ofString "told", .ref aT), (Str.ofString "end", .int (((txtT (.node t1 t2 t3)).length : Nat) : Int) t10), (Str.ofString "text", .str (showT (.node t1 t2 t3)) u8), (Str.ofString "thing", qv), (Str.ofString "number", .int (num : Int) tn), (Str.ofString "row", .ref aRow4), (Str.ofString "numbers", .ref aN), (Str.ofString "rows", .ref aR)] F11 (by simp only [List.forall_mem_cons]; exact ⟨rfl, by rw [List.length_nil, Nat.zero_add]; rfl, rfl, rfl, rfl, rfl, rfl, rfl, List.forall_mem_nil _⟩)
      simp only [known] at F12
      clear F11 N11 hes7 offD10 offa10 off10 hmRow hmN5 hcells hrv5 sub6 sub7 offI6 offR6
      k_dflt (refine LCg.ListComp_U (F₀ := F12) (by rfl) (by decide) (by rfl) (by decide) (by rfl) ?_)
      walk_at "mine to src"
      have memRow := mem2 N12 hmRow7
      k_dflt (refine LCg.CompSrc.ledger (by rfl) F12 N12 memRow (by show _ ≤ 2 ^ 24; simp only [List.size_toArray]; have := Paired.len hcells7; omega) ?_)
      intro g12
      refine comp_cells (r' := wordsR (.node t1 t2 t3)) (words_len _) memRow (Paired.mono' hcells7 fun _ _ q => q.mono fun a o q => mem2 N12 q) ?_ ?_
      · intro i3 v c c3 I3 oI3 C3 oC3 D3 m3 h13 tk13 E3 ys tl13 rest3 hcell hci hci' hC hx F13 N13 off13 ne13 hrest
        obtain rfl := words_at hci hci'
        have hcr := List.mem_of_getElem? hci
        clear hci hci'
        obtain ⟨b3, ws3, k3, rfl, hb3, hq3⟩ := id hcell
        clear F12 N12
        walk_at "mine to elt"
        rename Fr s.heap L' _ _ => F14
        rename News s.heap L' _ _ => N14
        have in3 : ∀ p ∈ (I, it) :: (aR, W.listOf rv.toArray kr) :: old7, p ∈ (I3, oI3) :: (C3, oC3) :: (D3, LCg.lst ys) :: (tl13 ++ (I, it) :: (aR, W.listOf rv.toArray kr) :: old7) := fun p hp => .tail _ (.tail _ (.tail _ (List.mem_append_right _ hp)))
        obtain ⟨as3, hrd3⟩ := cell_reads (hcell.mono fun a o q => (N14 _ (.tail _ (in3 _ q))).1)
        k_dflt (refine eq_dataH hrd3 (reads_list_at (News.get N14 (.head _)) rfl rfl ReadsAll.nil) (cell_sh c) (by decide) (by show 4 + 3 + 64 < cLine; decide) ?_)
        cases c with
        | none =>
          rw [eq_none_nil]
          walk_at "mine to elt"
          rename Fr s.heap L' _ _ => F15
          rename News s.heap L' _ _ => N15
          exact hrest (.ref b3) [] _ _ F15 (drop1 N15) (List.forall_mem_nil _) (List.forall_mem_nil _) (hcell.mono fun a o q => List.mem_append_right _ (List.mem_append_right _ q))
        | some a =>
          rw [eq_some_nil]
          cases hq3 with | cons hat hq3 =>
          cases hq3
          walk_at "mine to elt"
          rename Fr s.heap L' _ _ => F15
          rename News s.heap L' _ _ => N15
          k_dflt (refine item_at ⟨_, News.get N15 (.tail _ (in3 _ hb3)), rfl, _, rfl⟩ (by omega) (by omega) (by rfl) ?_)
          walk_at "mine to elt"
          refine str_atom hat (good_mem hgood a hcr) fun t16 tk16 => ?_
          walk_at "mine to elt"
          rename Fr s.heap L' _ _ => F17
          rename News s.heap L' _ _ => N17
          rename _ < _ ∧ _ < _ ∧ _ < _ ∧ _ < _ ∧ AllLt _ _ => q17
          obtain ⟨N18, off18, offn18⟩ := elt_new (news_drop2 N17) q17.2
          obtain ⟨ok18, ew18⟩ := word_good (good_mem hgood a hcr)
          refine hrest _ [_] _ _ F17 N18 off18 offn18 ?_
          rw [Option.map_some, ew18]
          exact ⟨_, [_], 0, rfl, .head _, .cons (.str _ _ _) .nil⟩
      · intro ys tl13 hys offtl
        intro D18 h18 tk18 F18 N18 off18
        obtain ⟨as19, hrd19⟩ := row_reads (h := h18) (v := .ref D18) (r := wordsR (.node t1 t2 t3)) ⟨D18, ys, _, rfl, (N18 _ (.head _)).1, Paired.mono' hys fun _ _ q => q.mono fun a o q => (N18 _ (.tail _ q)).1⟩
        obtain ⟨as20, hrd20⟩ := row_reads (h := h18) (v := .ref aT) (r := wordsR (.node t1 t2 t3)) ⟨aT, us10, _, rfl, (N18 _ (.tail _ (List.mem_append_right _ (.tail _ (.tail _ hmT))))).1, Paired.mono' hc10 fun _ _ q => q.mono fun a o q => (N18 _ (.tail _ (List.mem_append_right _ (.tail _ (.tail _ q))))).1⟩
        have N20 : News s.heap L' h18 ((I, it) :: (aR, W.listOf rv.toArray kr) :: old7) := fun p hp => N18 p (.tail _ (List.mem_append_right _ hp))
        k_dflt (refine ne_dataH hrd20 hrd19 (row_sh _) (row_sh _) (by show 4 + 3 + 64 < cLine; decide) ?_)
        rw [row_refl]
        clear N18 hrd19 hrd20 off18 hys F12 N12
        have hst : (showT (.node t1 t2 t3)).length = (txtT (.node t1 t2 t3)).length := strOf_len _
        walk_at "mine to call"
        · exfalso; omega
        clear memRow
        (try clear N7)
        k_dflt (refine LCg.Assign_ListComp_U (cl := []) F18 rfl ?hsw ?hclos ?hcell ?hkind ?hnames ?hx ?hy ?hp ?_ (fun _ => rfl))
        case hsw => with_unfolding_all rfl
        case hclos => with_unfolding_all rfl
        case hcell => decide
        case hkind => rfl
        case hnames => decide
        case hx => rfl
        case hy => rfl
        case hp => rfl
        walk_at "mine to src"
        have memT := mem2 N20 hmT
        have hul10 := Paired.len hc10
        have hwl := words_len (.node t1 t2 t3)
        k_dflt (refine LCg.CompSrc.ledger (by rfl) F18 N20 memT (by show _ ≤ 2 ^ 24; simp only [List.size_toArray]; omega) ?_)
        intro g20
        refine comp_cells (r' := flat (.node t1 t2 t3)) (words_len _).symm memT (Paired.mono' hc10 fun _ _ q => q.mono fun a o q => mem2 N20 q) ?_ ?_
        · intro i3 v c c3 I3 oI3 C3 oC3 D3 m3 h13 tk13 E3 ys tl13 rest3 hcell hci hci' hC hx F13 N13 off13 ne13 hrest
          obtain rfl := words_at hci' hci
          have hcr := List.mem_of_getElem? hci'
          clear hci hci'
          obtain ⟨b3, ws3, k3, rfl, hb3, hq3⟩ := id hcell
          clear F18 N20
          walk_at "mine to elt"
          rename Fr s.heap L' _ _ => F14
          rename News s.heap L' _ _ => N14
          have in3 : ∀ p ∈ (I, it) :: (aR, W.listOf rv.toArray kr) :: old7, p ∈ (I3, oI3) :: (C3, oC3) :: (D3, LCg.lst ys) :: (tl13 ++ (I, it) :: (aR, W.listOf rv.toArray kr) :: old7) := fun p hp => .tail _ (.tail _ (.tail _ (List.mem_append_right _ hp)))
          obtain ⟨as3, hrd3⟩ := cell_reads (hcell.mono fun a o q => (N14 _ (.tail _ (in3 _ q))).1)
          k_dflt (refine eq_dataH hrd3 (reads_list_at (News.get N14 (.head _)) rfl rfl ReadsAll.nil) (cell_sh _) (by decide) (by show 4 + 3 + 64 < cLine; decide) ?_)
          cases c3 with
          | none =>
            rw [Option.map_none, eq_none_nil]
            walk_at "mine to elt"
            rename Fr s.heap L' _ _ => F15
            rename News s.heap L' _ _ => N15
            exact hrest (.ref b3) [] _ _ F15 (drop1 N15) (List.forall_mem_nil _) (List.forall_mem_nil _) (hcell.mono fun a o q => List.mem_append_right _ (List.mem_append_right _ q))
          | some a =>
            obtain ⟨ok18, ew18⟩ := word_good (good_mem hgood a hcr)
            rw [Option.map_some, eq_some_nil]
            rw [Option.map_some, ew18] at hq3
            cases hq3 with | cons hat hq3 =>
            cases hq3
            cases hat
            walk_at "mine to elt"
            rename Fr s.heap L' _ _ => F15
            rename News s.heap L' _ _ => N15
            k_dflt (refine item_at ⟨_, News.get N15 (.tail _ (in3 _ hb3)), rfl, _, rfl⟩ (by omega) (by omega) (by rfl) ?_)
            walk_at "mine to elt"
            rename Fr s.heap L' _ _ => F16
            rename News s.heap L' _ _ => N16
            k_dflt (refine use_worth (dp := 302) (un := 7) X T (by decide) (by decide) F16 N16 (hplain a hcr) ?_)
            intro va h17 tk17 F17 N17 hat
            (try clear F16); (try clear N16); (try clear F15); (try clear N15)
            walk_at "mine to elt"
            rename Fr s.heap L' _ _ => F18
            rename News s.heap L' _ _ => N18
            rename _ < _ ∧ _ < _ ∧ _ < _ ∧ _ < _ ∧ AllLt _ _ => q17
            obtain ⟨N19, off19, offn19⟩ := elt_new (news_drop2 N18) q17.2
            exact hrest _ [_] _ _ F18 N19 off19 offn19 ⟨_, [_], 0, rfl, .head _, .cons hat .nil⟩
        · intro ys tl13 hys offtl
          intro D18 h18 tk18 F18 N18 off18
          dsimp only
          obtain ⟨old8, sub8, N21, offI8, offR8, offD8, hDI, hDR, hcells8⟩ := comp_done N18 off18 offI7 offR7 offtl hys
          replace htree : TreeP (fun a o => (a, o) ∈ old8) qv (.node t1 t2 t3) := htree.mono fun a o q => sub8 _ q
          have hmRow8 := sub8 _ hmRow7
          have hmN8 := sub8 _ hmN7
          have hrcells8 : Paired (CellP fun a o => (a, o) ∈ old8) vs4 (flat (.node t1 t2 t3)) := Paired.mono' hcells7 fun _ _ q => q.mono fun a o q => sub8 _ q
          have hrv8 : Paired (fun v t => RowP (fun a o => (a, o) ∈ old8) v (flat t)) rv ts := Paired.mono' hrv7 fun _ _ q => q.mono fun a o q => sub8 _ q
          obtain ⟨m21, F21⟩ := fr_cut [(Str.ofString "told", .ref D18), (Str.ofString "text", .str (showT (.node t1 t2 t3)) u8), (Str.ofString "thing", qv), (Str.ofString "number", .int (num : Int) tn), (Str.ofString "row", .ref aRow4), (Str.ofString "numbers", .ref aN), (Str.ofString "rows", .ref aR)] F18 (by simp only [List.forall_mem_cons]; exact ⟨rfl, rfl, rfl, rfl, rfl, rfl, rfl, List.forall_mem_nil _⟩)
          simp only [known] at F21
          have hyl := Paired.len hcells8
          clear F18 N18 N20 off18 hys offtl hmT hc10 hmRow7 hmN7 hcells7 hrv7 sub8 memT hul10 hwl offI7 offR7
          (try clear F18)
          walk_at "mine to call"
          k_dflt (refine use_made (t := .node t1 t2 t3) X T (by decide) (by decide) (B.push F21) F21 N21 ⟨_, _, _, rfl, .head _, Paired.mono' hcells8 fun _ _ q => q.mono fun a o q => .tail _ q⟩ (by omega) ?_)
          intro av tl22 h22 tk22 F22 N22 off22 hanew
          obtain ⟨old9, sub9, hes9, N23, offD9, offI9, offR9⟩ := regroupN N22 offD8 offI8 offR8 (fun e he => ⟨off22 e he _ (.head _), off22 e he _ (.tail _ (.head _)), off22 e he _ (.tail _ (.tail _ (.head _)))⟩)
          replace hanew : TreeP (fun a o => (a, o) ∈ old9) av (.node t1 t2 t3) := hanew.mono fun a o q => hes9 _ q
          replace htree : TreeP (fun a o => (a, o) ∈ old9) qv (.node t1 t2 t3) := htree.mono fun a o q => sub9 _ q
          clear F21 N21 N22 off22 hes9 offD8 offI8 offR8
          walk_at "mine to call"
          rename Fr s.heap L' _ _ => F24
          rename News s.heap L' _ _ => N24
          (try clear F22); (try clear N23)
          have hsz2 : (Tree.node t1 t2 t3).size ≤ 10 := by omega
          k_dflt (refine use_eq (cmp_refl (.node t1 t2 t3)) X T (by show _ < 1000; omega) (by show _ < 9900; omega) B F24 N24 (hanew.mono fun a o q => mem3 N24 q) (htree.mono fun a o q => mem3 N24 q) ?_ rfl)
          intro h25 tk25 F25 N25
          clear F24 N24
          walk_at "mine to call"
          k_dflt (refine use_eq (cmp_refl (.node t1 t2 t3)) X T (by show _ < 1000; omega) (by show _ < 9900; omega) B F25 N25 (htree.mono fun a o q => mem3 N25 q) (hanew.mono fun a o q => mem3 N25 q) ?_ rfl)
          intro h26 tk26 F26 N26
          clear F25 N25
          walk_at "mine to call"
          k_dflt (refine use_repr (dp := 302) (un := 7) X T (by show _ < 1000; omega) (by show _ < 9900; omega) F26 N26 (hanew.mono fun a o q => mem3 N26 q) hgood (by omega) ?_)
          intro h27 u27 tk27 F27 N27
          clear F26 N26
          walk_at "mine to call"
          k_dflt (refine ne_txt (b := false) (bne_of_eq rfl) ?_)
          walk_at "mine to call"
          k_dflt (refine use_str (dp := 302) (un := 7) X T (by show _ < 1000; omega) (by show _ < 9900; omega) F27 N27 (htree.mono fun a o q => mem3 N27 q) hgood (by omega) ?_)
          intro h28 u28 tk28 F28 N28
          clear F27 N27
          walk_at "mine to call"
          k_dflt (refine ne_txt (b := false) (bne_of_eq rfl) ?_)
          walk_at "mine to call"
          rename Fr s.heap L' _ _ => F29
          rename News s.heap L' _ _ => N29
          obtain ⟨k0, hk0⟩ : ∃ k, k = num / 2 % ys.length := ⟨_, rfl⟩
          have hypos : 0 < ys.length := by rw [hyl]; exact flat_pos _
          have hk0l : k0 < ys.length := by rw [hk0]; exact Nat.mod_lt _ hypos
          obtain ⟨tk0, ek0⟩ := fr_int (x := Str.ofString "k") (j := (k0 : Int)) F29 rfl (by rw [show (2 : Int) = ((2 : Nat) : Int) from rfl, nat_fdiv, nat_fmod, hk0])
          obtain ⟨m30, F30⟩ := fr_cut [(Str.ofString "k", _), (Str.ofString "told", .ref D18), (Str.ofString "text", .str (showT (.node t1 t2 t3)) u8), (Str.ofString "thing", qv), (Str.ofString "row", .ref aRow4), (Str.ofString "numbers", .ref aN), (Str.ofString "rows", .ref aR)] F29 (by simp only [List.forall_mem_cons]; exact ⟨ek0, rfl, rfl, rfl, rfl, rfl, rfl, List.forall_mem_nil _⟩)
          simp only [known] at F30
          have hcells9 : Paired (CellP fun a o => (a, o) ∈ (I, it) :: (aR, W.listOf rv.toArray kr) :: old9) ys (flat (.node t1 t2 t3)) := Paired.mono' hcells8 fun _ _ q => q.mono fun a o q => by
            rcases List.mem_cons.mp q with q | q
            · exact q ▸ .head _
            · rcases List.mem_cons.mp q with q | q
              · exact q ▸ .tail _ (.head _)
              · exact .tail _ (.tail _ (sub9 _ q))
          have hmRow9 := sub9 _ hmRow8
          have hmN9 := sub9 _ hmN8
          have hrcells9 : Paired (CellP fun a o => (a, o) ∈ old9) vs4 (flat (.node t1 t2 t3)) := Paired.mono' hrcells8 fun _ _ q => q.mono fun a o q => sub9 _ q
          have hrv9 : Paired (fun v t => RowP (fun a o => (a, o) ∈ old9) v (flat t)) rv ts := Paired.mono' hrv8 fun _ _ q => q.mono fun a o q => sub9 _ q
          clear F29 ek0 hk0 hcells8 hmRow8 hmN8 hrcells8 hrv8 sub9 hanew
          obtain ⟨pl, la, hpl⟩ := leaf_there (.node t1 t2 t3)
          have hpll : pl < ys.length := by
            rw [hyl]
            rcases Nat.lt_or_ge pl (flat (.node t1 t2 t3)).length with h' | h'
            · exact h'
            · rw [List.getElem?_eq_none h'] at hpl; cases hpl
          obtain ⟨d0, hd0⟩ := round_start hpll hk0l
          k_dflt (refine While_inv (L := L') (h₀ := s.heap) (news := (D18, W.listOf ys.toArray ys.length) :: (I, it) :: (aR, W.listOf rv.toArray kr) :: old9) (n₀ := d0) (fun n m nw => nw = (D18, W.listOf ys.toArray ys.length) :: (I, it) :: (aR, W.listOf rv.toArray kr) :: old9 ∧ m (Str.ofString "told") = some (.ref D18) ∧ m (Str.ofString "text") = some (.str (showT (.node t1 t2 t3)) u8) ∧ m (Str.ofString "thing") = some qv ∧ m (Str.ofString "row") = some (.ref aRow4) ∧ m (Str.ofString "numbers") = some (.ref aN) ∧ m (Str.ofString "rows") = some (.ref aR) ∧ ∃ k : Nat, HasInt m (Str.ofString "k") (k : Int) ∧ k < ys.length ∧ (k + n) % ys.length = pl) F30 N29 ?_ ?_ ?_)
          · exact ⟨rfl, rfl, rfl, rfl, rfl, rfl, rfl, k0, .of rfl rfl, hk0l, hd0⟩
          · rintro n m31 nw31 h31 tk31 F31 N31 ⟨rfl, e1, e2, e3, e4, e5, e6, k, ⟨tkk, ek⟩, hkl, hkr⟩
            replace F31 := fr_known [(Str.ofString "k", _), (Str.ofString "told", _), (Str.ofString "text", _), (Str.ofString "thing", _), (Str.ofString "row", _), (Str.ofString "numbers", _), (Str.ofString "rows", _)] F31 (by simp only [List.forall_mem_cons]; exact ⟨ek, e1, e2, e3, e4, e5, e6, List.forall_mem_nil _⟩)
            simp only [known] at F31
            clear F30 N29 e1 e2 e3 e4 e5 e6 ek hk0l hd0
            obtain ⟨c, hc⟩ : ∃ c, (flat (.node t1 t2 t3))[k]? = some c := ⟨_, List.getElem?_eq_getElem (by omega)⟩
            obtain ⟨uk, huk, hcellk⟩ := paired_get hcells9 k c hc
            obtain ⟨bk, wsk, kk, rfl, hbk, hqk⟩ := id hcellk
            walk_at "mine to cmpr"
            rename Fr s.heap L' _ _ => F32
            rename News s.heap L' _ _ => N32
            obtain ⟨ask, hrdk⟩ := cell_reads (hcellk.mono fun a o q => (N32 _ (.tail _ (.tail _ q))).1)
            k_dflt (refine eq_dataH hrdk (reads_list_at (News.get N32 (.head _)) rfl rfl ReadsAll.nil) (cell_sh c) (by decide) (by show 4 + 3 + 64 < cLine; decide) ?_)
            cases c with
            | none =>
              rw [eq_none_nil]
              obtain _ | n := n
              · exfalso
                rw [Nat.add_zero, Nat.mod_eq_of_lt hkl] at hkr
                rw [hkr, hpl] at hc; cases hc
              walk_at "mine to call"
              rename Fr s.heap L' _ _ => F33
              rename News s.heap L' _ _ => N33
              refine WhileStep.intro (n' := n) F33 (drop1 N33) (by omega) ⟨rfl, rfl, rfl, rfl, rfl, rfl, rfl, (k + 1) % ys.length, .of rfl ?_, Nat.mod_lt _ hypos, round_step hkr⟩
              rw [show ((k : Int) + 1) = ((k + 1 : Nat) : Int) from rfl, nat_fmod]
            | some a =>
              rw [eq_some_nil]
              obtain ⟨t', f1, hg', c1, c2, hne', hnode'⟩ := other_tree hc hplain
              walk_at "mine to call"
              rename Fr s.heap L' _ _ => F33
              rename News s.heap L' _ _ => N33
              rename _ < _ ∧ _ < _ ∧ _ < _ ∧ _ < _ ∧ AllLt _ old9 => q33
              k_dflt (refine' ki_set ?kF ?kN ?ka ?kb ?ke ?kU ?_; (case kF => exact F33); (case kN => exact N33); (case ka => omega); (case kb => omega); (case ke => (rw [Int.toNat_natCast]; exact setL_at ys k _ hkl)); (case kU => k_upd))
              intro h34 F34 N34
              clear F33 N33
              (try clear F32)
              obtain ⟨old10, sub10, hmB, hmD, N35, offI10, offR10⟩ := told_done N34 offI9 offR9 hDI hDR q33.2.2.1 q33.2.2.2.1
              obtain ⟨x', y', z', rfl⟩ := node_of (t := t') (hnode'.trans rfl)
              have hcells10 := cells_set hmB hcells9 sub10 k
              rw [← f1] at hcells10
              have hl' : (flat (.node x' y' z')).length ≤ 31 := by rw [f1, List.length_set]; exact hlen31
              have hsz' := flat_len (.node x' y' z')
              replace htree : TreeP (fun a o => (a, o) ∈ old10) qv (.node t1 t2 t3) := htree.mono fun a o q => sub10 _ q
              have hmRow10 := sub10 _ hmRow9
              have hmN10 := sub10 _ hmN9
              have hrcells10 : Paired (CellP fun a o => (a, o) ∈ old10) vs4 (flat (.node t1 t2 t3)) := Paired.mono' hrcells9 fun _ _ q => q.mono fun a o q => sub10 _ q
              have hrv10 : Paired (fun v t => RowP (fun a o => (a, o) ∈ old10) v (flat t)) rv ts := Paired.mono' hrv9 fun _ _ q => q.mono fun a o q => sub10 _ q
              clear N34 sub10 hmB hmRow9 hmN9 hrcells9 hrv9 hcells9 hcellk hqk hbk hrdk huk hkr hpl offI9 offR9 offD9
              walk_at "mine to call"
              k_dflt (refine use_made (t := .node x' y' z') X T (by decide) (by decide) (B.push F34) F34 N35 ⟨_, _, _, rfl, mem2 N35 hmD, hcells10⟩ (by omega) ?_)
              intro ov tl36 h36 tk36 F36 N36 off36 hother
              obtain ⟨old11, sub11, hes11, N37, offI11, offR11⟩ := absorb N36 offI10 offR10 off36
              replace hother : TreeP (fun a o => (a, o) ∈ old11) ov (.node x' y' z') := hother.mono fun a o q => hes11 _ q
              replace htree : TreeP (fun a o => (a, o) ∈ old11) qv (.node t1 t2 t3) := htree.mono fun a o q => sub11 _ q
              have hmRow11 := sub11 _ hmRow10
              have hmN11 := sub11 _ hmN10
              have hrcells11 : Paired (CellP fun a o => (a, o) ∈ old11) vs4 (flat (.node t1 t2 t3)) := Paired.mono' hrcells10 fun _ _ q => q.mono fun a o q => sub11 _ q
              have hrv11 : Paired (fun v t => RowP (fun a o => (a, o) ∈ old11) v (flat t)) rv ts := Paired.mono' hrv10 fun _ _ q => q.mono fun a o q => sub11 _ q
              clear F34 N35 N36 off36 hes11 sub11 hmRow10 hmN10 hrcells10 hrv10 hcells10 offI10 offR10 hmD
              walk_at "mine to call"
              rename Fr s.heap L' _ _ => F38
              rename News s.heap L' _ _ => N38
              (try clear F36); (try clear N37)
              k_dflt (refine use_eq c1 X T (by show _ < 1000; omega) (by show _ < 9900; omega) B F38 N38 (hother.mono fun a o q => mem2 N38 q) (htree.mono fun a o q => mem2 N38 q) ?_ rfl)
              intro h39 tk39 F39 N39
              clear F38 N38
              walk_at "mine to call"
              k_dflt (refine use_ne c2 X T (by show _ < 1000; omega) (by show _ < 9900; omega) B F39 N39 (htree.mono fun a o q => mem2 N39 q) (hother.mono fun a o q => mem2 N39 q) ?_ rfl)
              intro h40 tk40 F40 N40
              clear F39 N39
              rw [Bool.not_false]
              walk_at "mine to call"
              k_dflt (refine use_repr (dp := 302) (un := 7) X T (by show _ < 1000; omega) (by show _ < 9900; omega) F40 N40 (hother.mono fun a o q => mem2 N40 q) hg' (by omega) ?_)
              intro h41 u41 tk41 F41 N41
              clear F40 N40
              walk_at "mine to call"
              k_dflt (refine eq_txt (b := false) (by rw [beq_eq_false_iff_ne]; exact hne') ?_)
              have memRow := mem2 N41 hmRow11
              have hv4l := Paired.len hrcells11
              walk_at "mine to call"
              · rename Fr s.heap L' _ _ => F43
                rename News s.heap L' _ _ => N43
                rw [List.push_toArray] at N43
                refine TurnPost.go ((aR, W.listOf (rv ++ [Value.ref aRow4]).toArray (kr + 1)) :: old11) F43 N43 ?_ ⟨aR, rv ++ [.ref aRow4], ts ++ [.node t1 t2 t3], kr + 1, old11, rfl, rfl, rfl, offR11, hmN11, paired_append hrv11 (.cons ⟨aRow4, vs4, kv4, rfl, hmRow11, hrcells11⟩ .nil), ?_, ?_⟩
                · intro p hp
                  rcases List.mem_cons.mp hp with rfl | hp
                  · exact hRI
                  · exact offI11 p hp
                · simp only [List.length_append, List.length_singleton]; omega
                · intro u hu
                  rcases List.mem_append.mp hu with hu | hu
                  · exact hts u hu
                  · rw [List.mem_singleton.mp hu]; exact ⟨rfl, hplain, by omega⟩
              · rename Fr s.heap L' _ _ => F43
                rename News s.heap L' _ _ => N43
                refine TurnPost.go ((aR, W.listOf rv.toArray kr) :: old11) F43 N43 ?_ ⟨aR, rv, ts, kr, old11, rfl, rfl, rfl, offR11, hmN11, hrv11, by omega, hts⟩
                intro p hp
                rcases List.mem_cons.mp hp with rfl | hp
                · exact hRI
                · exact offI11 p hp
          · exact PassesOwn.never
  · rintro m44 nw44 h44 tk44 ⟨aR, rv, ts, kr, old, e1, e2, rfl, offR, hmN, hrv, htsi, hts⟩ F44 N44
    (try clear F3); (try clear N3)
    walk_at "mine to call"
    exact hR _ _ F44.keep
end Mine
end
section
theorem PySem.Challenge.cw_dn0319_05_holds : PySem.Challenge.rw_dn0319_05.Holds := by
  refine Mine.hd ?_
  w_strict (
    k_fill
    intro w s₀ s₁ mg mb G Y fa o pm cd doc dV kV ho hd hcd hD hmg hg args vals as hpre hlay hrd hwl hlo
    have KX := kIn_of Y
    refine Ground.open G ?_
    intro T B D TE TW
    wrow_args hpre hlay hrd hwl hlo
    refine enter_call ?_
    have hfa : mg (Str.ofString "law") = some (.ref 78) := mg_of KX T.g (by k_is)
    have h1 : mg (Str.ofString "law") = some (.ref fa) := hmg
    rw [hfa] at h1
    obtain rfl : 78 = fa := by cases h1; rfl
    rename IntsAre _ _ => hI
    rename Heap.IsList _ _ _ => hLL
    rename ¬ _ < _ => hc
    refine Mine.law_call KX T hLL hI (by omega) ?_
    intro h' tk hk
    refine GoodW.toG ⟨.inl ⟨_, .bool true, [], rfl, raisesW_false ?_, .bool true, ?_, unshared_nil⟩, hk, rfl, hg⟩
    · wrow_none_raised
    · wrow_post)
end
