import PyProof.Rows.All
import Wide.All
import OpenK.AllK
import Wide.FinOn
import PySem.Challenge.RW_ab5001_01
set_option Elab.async false
section PartHd
open PySem PySem.W PyProof.Rows
namespace Mine
set_option maxRecDepth 100000 in
set_option maxHeartbeats 8000000 in
open_top hd for PySem.Challenge.rw_ab5001_01
end Mine
end PartHd
section PartBase
open PySem PySem.W PySem.Calls PyProof.Rows
set_option maxRecDepth 100000
namespace Mine

/-- what is there stays -/
abbrev Ext (h h' : Heap) : Prop := ∀ b o, h.get? b = some o → h'.get? b = some o

abbrev ar (dp un : Nat) (gd : Option (List Code)) (outs : List Env) : Around := { handled := none, depth := dp, frames := some outs, guards := gd, units := un }

abbrev lob (vs : List Value) (n : Nat) : Obj := { cls := .type "list", data := .seq vs.toArray n }

section
variable {prog : Program} {w : World} {K : Frag} {A : Around} {s : Shared} {base : Heap} {outs : List Env}
  {R : Result → Shared → Prop} {name qual : Str} {params : Arguments} {body : List Stmt} {scope : Scope} {dV kV doc pm cdv ct oc : Value} {an od : Option Addr} {osl : Array (Option Value)} {f : Addr} {args : Args} {binds : List (Str × Value)}
  {p : Program} {loose : List Str} {mean : ExcName → Option Value} {mg mb : Str → Option Value}

theorem code_pure (X₀ : K.In s.heap) (T : Top p loose mean mg mb s.heap)
    (ho : K.lookup f = some ⟨oc, od, .func (fnOf name qual params body scope dV kV doc pm an cdv ct), osl⟩) (hcd : codeIn K cdv qual = true) (hroom : A.depth < recursionLimit)
    (hbind : BindsTo s (fnOf name qual params body scope dV kV doc pm an cdv ct) args binds) (hloc : ∀ y ∈ binds, scope.names.lookup y.1 = some .local)
    (h : ∀ h₁, Fr s.heap s.heap.objs.size h₁ (fun y => binds.reverse.lookup y) → News s.heap s.heap.objs.size h₁ [] →
      wpAny (model prog w) (A.deeper (envX qual scope s.heap.objs.size f cdv [])) (execs body (envX qual scope s.heap.objs.size f cdv []))
        (fun fl s' => R (.ok (.ret (match fl with | .ret v => v | _ => .none))) s')
        (fun e s' => wpAny (model prog w) (A.deeper (envX qual scope s.heap.objs.size f cdv [])) (leaving (envX qual scope s.heap.objs.size f cdv []) e) (fun _ s'' => R (.error e) s'') (fun e' s'' => R (.error e') s'') s')
        { s with heap := h₁, toks := s.toks + binds.length })
    (hco : scope.isCoroutine = false) (hgen : scope.isGenerator = false) (hk : scope.kind = .function)
    (hcell : ∀ x ∈ scope.names, x.2 ≠ .cell) : codeAny (model prog w) A (.call (.ref f) args) R s := by
  refine codeAny_call_def (fd := fnX name qual params body scope [] dV kV doc pm an cdv ct) (body := body) (binds := binds) hroom (X₀ _ _ ho) rfl T.nolimit (codeRec_of X₀ hcd) rfl hbind hcell hloc (fun h₁ hns hk₁ => ?_) hco hgen hk
  exact h h₁ ⟨hns, hk₁, Nat.le_refl _⟩ News.nil

theorem code_pureC (X₀ : K.In s.heap) (T : Top p loose mean mg mb s.heap)
    (ho : K.lookup f = some ⟨oc, od, .func (fnOf name qual params body scope dV kV doc pm an cdv ct), osl⟩) (hcd : codeIn K cdv qual = true) (hroom : A.depth < recursionLimit)
    (hbind : BindsTo s (fnOf name qual params body scope dV kV doc pm an cdv ct) args binds) (hkind : (binds.all fun y => scope.names.lookup y.1 == some .local || scope.names.lookup y.1 == some .cell) = true)
    (hnd : ((cellsFrom 0 scope.names []).map (·.1)).Nodup)
    (h : ∀ h₁ tk cells, Fr s.heap s.heap.objs.size h₁ (bindL (envOfC qual scope s.heap.objs.size f cdv).kindOf binds fun _ => none) → News s.heap s.heap.objs.size h₁ cells →
      CellsAre (bindC (envOfC qual scope s.heap.objs.size f cdv).kindOf binds fun _ => none) (cellsFrom (s.heap.objs.size + 1) scope.names []) cells →
      wpAny (model prog w) (A.deeper (envOfC qual scope s.heap.objs.size f cdv)) (execs body (envOfC qual scope s.heap.objs.size f cdv))
        (fun fl s' => R (.ok (.ret (match fl with | .ret v => v | _ => .none))) s')
        (fun e s' => wpAny (model prog w) (A.deeper (envOfC qual scope s.heap.objs.size f cdv)) (leaving (envOfC qual scope s.heap.objs.size f cdv) e) (fun _ s'' => R (.error e) s'') (fun e' s'' => R (.error e') s'') s')
        { s with heap := h₁, toks := tk })
    (hco : scope.isCoroutine = false) (hgen : scope.isGenerator = false) (hk : scope.kind = .function) : codeAny (model prog w) A (.call (.ref f) args) R s := by
  refine codeAny_call_function (fd := fnX name qual params body scope [] dV kV doc pm an cdv ct) hroom (X₀ _ _ ho) rfl hco hgen rfl (codeRec_of X₀ hcd) (hbind _ _ _ _ ?_)
  refine wpAny_newFunctionEnv_cells hk (kindsX hkind _) fun env' he s' x => ?_
  subst he
  refine ⟨T.nolimit.keeps x.toInCall.keep, codeAny_func ?_⟩
  obtain ⟨h₁, tk, rfl, _⟩ := x.done
  obtain ⟨cells, NC, Y⟩ := Cl.news (h₀ := s.heap) (Nat.le_refl _) fun n c hm => ⟨x.cell n c (lookup_of_mem_nodup (cellsFrom_names scope.names 0 (s.heap.objs.size + 1) [] [] rfl ▸ hnd) hm), x.above n c hm⟩
  exact h h₁ tk cells ⟨x.toInCall.ns, x.toInCall.keep, Nat.le_refl _⟩ NC Y
end
end Mine
end PartBase
section PartComp
open PySem PySem.W PySem.Calls PyProof.Rows
set_option maxRecDepth 100000
namespace Mine
def Halt (P : Prop) : Prop := P
theorem Halt.intro {P : Prop} (h : P) : Halt P := h
theorem Halt.go {P : Prop} (h : Halt P) : P := h

section
variable {prog : Program} {w : World} {A : Around} {h₀ : Heap} {L : Addr} {m : Str → Option Value} {env : Env} {elt : Expr} {x : Str} {scope : Scope} {cl : List (Str × Addr)} {s : Shared} {S : List (Addr × Obj) → Prop} {P : Nat → Value → Prop} {Fin : List Value → List (Addr × Obj) → Prop} {news₀ : List (Addr × Obj)}

theorem rest_gen {n : Nat} (J : Nat → List Value → List (Addr × Obj) → Prop) (h0 : J 0 [] news₀)
    (turn : ∀ i v ys news I oI C oC D m₂ h tk (E' : Value → Shared → Prop), i < n → P i v → J i ys news → LCg.NsObj oC m₂ → m₂ x = some v → Fr h₀ L h m → News h₀ L h ((I, oI) :: (C, oC) :: (D, LCg.lst ys) :: news) → LCg.Off3 I C D news → ((@Ne Nat I C) ∧ (@Ne Nat I D) ∧ (@Ne Nat C D)) →
      wpAny (model prog w) A (eval elt (compEnvC scope cl C env)) (LCg.CompEnd h₀ L m { s with heap := h, toks := tk } I oI C oC D (LCg.lst ys) S (fun y news' => J (i + 1) (ys ++ [y]) news')) E' { s with heap := h, toks := tk })
    (fin : ∀ ys news, J n ys news → Fin ys news) : LCg.CompRest prog w A h₀ L m env elt x scope cl s S P Fin n 0 [] news₀ := by
  have key : ∀ (j i : Nat) (ys : List Value) (news : List (Addr × Obj)), i + j = n → J i ys news → LCg.CompRest prog w A h₀ L m env elt x scope cl s S P Fin j i ys news := by
    intro j
    induction j with
    | zero =>
      intro i ys news hi hJ
      obtain rfl : i = n := by omega
      exact LCg.CompRest.zero (fin ys news hJ)
    | succ j ih =>
      intro i ys news hi hJ
      refine LCg.CompRest.succ ?_
      intro v I oI C oC D m₂ h tk E' hv hC hx F N off ne
      refine wpAny_mono (turn i v ys news I oI C oC D m₂ h tk E' (by omega) hv hJ hC hx F N off ne) (fun y s₂ hq => ?_) fun _ _ e => e
      obtain ⟨h', tk', nw, e, F', N', off', hS, hJ'⟩ := hq
      exact ⟨h', tk', nw, e, F', N', off', hS, ih (i + 1) _ nw (by omega) hJ'⟩
  exact key n 0 [] news₀ (by omega) h0

theorem rest_ints {n : Nat} (g : Nat → Int)
    (turn : ∀ i v ys I oI C oC D m₂ h tk (E' : Value → Shared → Prop), i < n → P i v → LCg.NsObj oC m₂ → m₂ x = some v → Fr h₀ L h m → News h₀ L h ((I, oI) :: (C, oC) :: (D, LCg.lst ys) :: news₀) → LCg.Off3 I C D news₀ → ((@Ne Nat I C) ∧ (@Ne Nat I D) ∧ (@Ne Nat C D)) →
      wpAny (model prog w) A (eval elt (compEnvC scope cl C env)) (LCg.CompEnd h₀ L m { s with heap := h, toks := tk } I oI C oC D (LCg.lst ys) S (fun y news' => news' = news₀ ∧ ∃ t : Tok, y = .int (g i) t)) E' { s with heap := h, toks := tk })
    (fin : ∀ ys, IntsAre ys ((List.range n).map g) → Fin ys news₀) : LCg.CompRest prog w A h₀ L m env elt x scope cl s S P Fin n 0 [] news₀ := by
  refine rest_gen (fun i ys news => news = news₀ ∧ IntsAre ys ((List.range i).map g)) ⟨rfl, .nil⟩ ?_ (fun ys news hJ => ?_)
  · rintro i v ys news I oI C oC D m₂ h tk E' hi hv ⟨rfl, hy⟩ hC hx F N off ne
    refine wpAny_mono (turn i v ys I oI C oC D m₂ h tk E' hi hv hC hx F N off ne) (fun y s₂ hq => ?_) fun _ _ e => e
    obtain ⟨h', tk', nw, e, F', N', off', hS, hn, t, hy'⟩ := hq
    refine ⟨h', tk', nw, e, F', N', off', hS, hn, ?_⟩
    rw [List.range_succ, List.map_append, hy']
    exact IntsAre.append hy (.cons (g i) t .nil)
  · obtain ⟨rfl, hy⟩ := hJ
    exact fin ys hy
end
end Mine
end PartComp
section PartPlain0
namespace Mine
abbrev repsOf (ns : List Int) (S : Int) : List Int := (List.range ns.length).map fun i => Int.fdiv (ns.getD i 0 * S) ns.sum
abbrev remsOf (ns : List Int) (S : Int) : List Int := (List.range ns.length).map fun i => ns.getD i 0 * S - (repsOf ns S).getD i 0 * ns.sum

theorem map_range_getD {α β : Type} (f : α → β) (d : α) (l : List α) : ((List.range l.length).map fun i => f (l.getD i d)) = l.map f := by
  apply List.ext_getElem
  · simp
  · intro i h1 h2
    simp at h1 h2 ⊢
    simp [List.getElem?_eq_getElem h1]
theorem reps_eq (ns : List Int) (S : Int) : repsOf ns S = ns.map fun x => Int.fdiv (x * S) ns.sum := map_range_getD (fun x => Int.fdiv (x * S) ns.sum) 0 ns

theorem fdiv_lo {a T : Int} (hT : 0 < T) : a - T + 1 ≤ Int.fdiv a T * T := by
  have h := Int.mul_fdiv_add_fmod a T
  have h2 := Int.fmod_lt_of_pos a hT
  have : T * Int.fdiv a T = Int.fdiv a T * T := Int.mul_comm ..
  omega
theorem fdiv_hi {a T : Int} (hT : 0 < T) : Int.fdiv a T * T ≤ a := by
  have h := Int.mul_fdiv_add_fmod a T
  have h2 := Int.fmod_nonneg_of_pos a hT
  have : T * Int.fdiv a T = Int.fdiv a T * T := Int.mul_comm ..
  omega

theorem sum_fdiv_lo {T S : Int} (hT : 0 < T) : ∀ l : List Int, l.sum * S - (l.length : Int) * (T - 1) ≤ (l.map fun x => Int.fdiv (x * S) T).sum * T
  | [] => by simp
  | x :: r => by
    have ih := sum_fdiv_lo (S := S) hT r
    have h := fdiv_lo (a := x * S) hT
    simp only [List.map_cons, List.sum_cons, List.length_cons]
    rw [Int.add_mul, Int.add_mul]
    have e : ((r.length + 1 : Nat) : Int) * (T - 1) = (r.length : Int) * (T - 1) + (T - 1) := by
      rw [Int.natCast_succ, Int.add_mul, Int.one_mul]
    rw [e]
    omega
theorem sum_fdiv_hi {T S : Int} (hT : 0 < T) : ∀ l : List Int, (l.map fun x => Int.fdiv (x * S) T).sum * T ≤ l.sum * S
  | [] => by simp
  | x :: r => by
    have ih := sum_fdiv_hi (S := S) hT r
    have h := fdiv_hi (a := x * S) hT
    simp only [List.map_cons, List.sum_cons]
    rw [Int.add_mul, Int.add_mul]
    omega
theorem reps_lo {ns : List Int} {S : Int} (h : 0 < ns.sum) : S - (ns.length : Int) ≤ (repsOf ns S).sum := by
  have := sum_fdiv_lo (S := S) h ns
  rw [← reps_eq] at this
  have e : (ns.length : Int) * (ns.sum - 1) = (ns.length : Int) * ns.sum - ns.length := by rw [Int.mul_sub, Int.mul_one]
  rw [e] at this
  have h2 : (S - (ns.length : Int)) * ns.sum ≤ (repsOf ns S).sum * ns.sum := by
    rw [Int.sub_mul]
    have : ns.sum * S = S * ns.sum := Int.mul_comm ..
    omega
  exact Int.le_of_mul_le_mul_right h2 h
theorem reps_hi {ns : List Int} {S : Int} (h : 0 < ns.sum) : (repsOf ns S).sum ≤ S := by
  have := sum_fdiv_hi (S := S) h ns
  rw [← reps_eq] at this
  rw [Int.mul_comm ns.sum S] at this
  exact Int.le_of_mul_le_mul_right this h

/-- one turn of the loop over the parties -/
def lrStep (S c : Int) (ms : List Int) (i : Nat) (st : List Int × Bool) : List Int × Bool :=
  if st.1.sum = S ∧ c ≤ ms.getD (i : Int).toNat 0 then (st.1, true)
  else if st.1.sum < S ∧ c < ms.getD (i : Int).toNat 0 then (st.1.set (i : Int).toNat (st.1.getD (i : Int).toNat 0 + 1), st.2)
  else if st.1.sum < S ∧ ms.getD (i : Int).toNat 0 = c then (st.1.set (i : Int).toNat (st.1.getD (i : Int).toNat 0 + 1), st.2)
  else st
def lrLoop (S c : Int) (ms : List Int) (st : List Int × Bool) : Nat → List Int × Bool
  | 0 => st
  | i + 1 => lrStep S c ms i (lrLoop S c ms st i)
theorem lrStep_a {S c : Int} {ms : List Int} {i : Nat} {st : List Int × Bool} (h1 : st.1.sum = S) (h2 : c ≤ ms.getD (i : Int).toNat 0) : lrStep S c ms i st = (st.1, true) := by
  unfold lrStep; rw [if_pos ⟨h1, h2⟩]
theorem lrStep_b {S c : Int} {ms : List Int} {i : Nat} {st : List Int × Bool} (h1 : st.1.sum < S) (h2 : c ≤ ms.getD (i : Int).toNat 0) : lrStep S c ms i st = (st.1.set (i : Int).toNat (st.1.getD (i : Int).toNat 0 + 1), st.2) := by
  unfold lrStep; rw [if_neg (by omega)]; split
  · rfl
  · rw [if_pos (by omega)]
theorem lrStep_c {S c : Int} {ms : List Int} {i : Nat} {st : List Int × Bool} (h : ms.getD (i : Int).toNat 0 < c ∨ S < st.1.sum) : lrStep S c ms i st = st := by
  unfold lrStep; rw [if_neg (by omega), if_neg (by omega), if_neg (by omega)]
theorem lrStep_len {S c : Int} {ms : List Int} {i : Nat} {st : List Int × Bool} : (lrStep S c ms i st).1.length = st.1.length := by
  unfold lrStep
  repeat' split
  all_goals simp
theorem lrLoop_len {S c : Int} {ms : List Int} {st : List Int × Bool} : ∀ i, (lrLoop S c ms st i).1.length = st.1.length
  | 0 => rfl
  | i + 1 => by rw [lrLoop, lrStep_len, lrLoop_len i]

/-- what is told of a cut -/
def CutOk (ns : List Int) (S c : Int) : Prop := ∃ ss : List Int, ss.Perm (remsOf ns S) ∧ ss.Pairwise (· ≤ ·) ∧ c = ss.getD (((repsOf ns S).sum - S) + (ns.length : Int)).toNat 0

def LrOut (ns : List Int) (S : Int) (out : List Int) (tie : Bool) : Prop :=
  ((repsOf ns S).sum ≥ S ∧ out = repsOf ns S ∧ tie = false) ∨
  ((repsOf ns S).sum < S ∧ ∃ c, CutOk ns S c ∧ (out, tie) = lrLoop S c (remsOf ns S) (repsOf ns S, false) ns.length)
end Mine
end PartPlain0
section PartComp2
open PySem PySem.W PySem.Calls PyProof.Rows
set_option maxRecDepth 100000
namespace Mine
section
variable {prog : Program} {w : World} {A : Around} {h₀ : Heap} {L : Addr} {m : Str → Option Value} {env : Env} {elt : Expr} {x : Str} {scope : Scope} {cl : List (Str × Addr)} {s : Shared} {S : List (Addr × Obj) → Prop} {P : Nat → Value → Prop} {Fin : List Value → List (Addr × Obj) → Prop} {news₀ : List (Addr × Obj)}

theorem rest_tail {n : Nat} (J : Nat → List Value → List (Addr × Obj) → Prop) (h0 : J 0 [] [])
    (turn : ∀ i v ys TL I oI C oC D m₂ h tk (E' : Value → Shared → Prop), i < n → P i v → J i ys TL → LCg.NsObj oC m₂ → m₂ x = some v → Fr h₀ L h m → News h₀ L h ((I, oI) :: (C, oC) :: (D, LCg.lst ys) :: (news₀ ++ TL)) → LCg.Off3 I C D (news₀ ++ TL) → ((@Ne Nat I C) ∧ (@Ne Nat I D) ∧ (@Ne Nat C D)) →
      wpAny (model prog w) A (eval elt (compEnvC scope cl C env)) (LCg.CompEnd h₀ L m { s with heap := h, toks := tk } I oI C oC D (LCg.lst ys) S (fun y news' => ∃ TL', news' = news₀ ++ TL' ∧ J (i + 1) (ys ++ [y]) TL')) E' { s with heap := h, toks := tk })
    (fin : ∀ ys TL, J n ys TL → Fin ys (news₀ ++ TL)) : LCg.CompRest prog w A h₀ L m env elt x scope cl s S P Fin n 0 [] news₀ := by
  refine rest_gen (fun i ys news => ∃ TL, news = news₀ ++ TL ∧ J i ys TL) ⟨[], by simp, h0⟩ ?_ ?_
  · rintro i v ys news I oI C oC D m₂ h tk E' hi hv ⟨TL, rfl, hJ⟩ hC hx F N off ne
    exact turn i v ys TL I oI C oC D m₂ h tk E' hi hv hJ hC hx F N off ne
  · rintro ys news ⟨TL, rfl, hJ⟩
    exact fin ys TL hJ

/-- the turn made one thing more, the newest of the ledger -/
theorem end_one {I C D a : Addr} {s₁ : Shared} {oI oC oD o : Obj} {rest : Value → List (Addr × Obj) → Prop} {y : Value} {h' : Heap} {tk : Nat} {news TL : List (Addr × Obj)}
    (F : Fr h₀ L h' m) (N : News h₀ L h' ((a, o) :: (I, oI) :: (C, oC) :: (D, oD) :: (news ++ TL))) (off : LCg.Off3 I C D (news ++ TL)) (hI : @Ne Nat a I) (hC : @Ne Nat a C) (hD : @Ne Nat a D) (hS : S (news ++ (a, o) :: TL)) (r : rest y (news ++ (a, o) :: TL)) :
    LCg.CompEnd h₀ L m s₁ I oI C oC D oD S rest y { s₁ with heap := h', toks := tk } := by
  refine LCg.CompEnd.intro F N (news ++ (a, o) :: TL) ?_ ?_ hS r
  · intro p hp
    simp only [List.mem_cons, List.mem_append] at hp ⊢
    rcases hp with h | h | h | h | h | h <;> simp [h]
  · refine LCg.Off3.of fun p hp => ?_
    simp only [List.mem_cons, List.mem_append] at hp
    rcases hp with h | h | h
    · exact off.mem p (List.mem_append.mpr (.inl h))
    · subst h; exact ⟨hI, hC, hD⟩
    · exact off.mem p (List.mem_append.mpr (.inr h))
theorem end_none {I C D : Addr} {s₁ : Shared} {oI oC oD : Obj} {rest : Value → List (Addr × Obj) → Prop} {y : Value} {h' : Heap} {tk : Nat} {news : List (Addr × Obj)}
    (F : Fr h₀ L h' m) (N : News h₀ L h' ((I, oI) :: (C, oC) :: (D, oD) :: news)) (off : LCg.Off3 I C D news) (hS : S news) (r : rest y news) :
    LCg.CompEnd h₀ L m s₁ I oI C oC D oD S rest y { s₁ with heap := h', toks := tk } := LCg.CompEnd.intro F N news (fun _ h => h) off hS r
end

section
variable {prog : Program} {w : World} {A : Around} {E : Value → Shared → Prop} {s : Shared} {env : Env} {h₀ : Heap} {x : Str} {body : List Stmt} {Q : Flow → Shared → Prop}

/-- a for over a range by an invariant over the turn's number, the frame's map and the ledger -/
theorem range_gen {r : Addr} {a₀ b₀ : Int} {t₀ u₀ v₀ : Tok} {n : Nat} {m₀ : Str → Option Value} {news : List (Addr × Obj)} (J : Nat → (Str → Option Value) → List (Addr × Obj) → Prop)
    (hh : A.handled = none) (hr : IsRange s.heap r a₀ b₀ 1 t₀ u₀ v₀) (hsmall : Builtin.Range.small a₀ b₀ 1 = true) (hn : Builtin.Range.rangeSize a₀ b₀ 1 = (n : Int)) (F : Fr h₀ env.locals s.heap m₀) (N : News h₀ env.locals s.heap news)
    (h0 : J 0 m₀ news)
    (turn : ∀ I i m₁ news₁ t h tk, (∀ p ∈ news, p.1 < I) → i < n → J i m₁ news₁ → Fr h₀ env.locals h (fun y => if y = x then some (.int (a₀ + (i : Int)) t) else m₁ y) →
      News h₀ env.locals h ((I, itR (a₀ + ((i + 1 : Nat) : Int)) ((n : Int) - ((i + 1 : Nat) : Int))) :: news₁) →
      wpAny (model prog w) A (execs body env) (UnrPost h₀ env.locals { s with heap := h, toks := tk } I (itR (a₀ + ((i + 1 : Nat) : Int)) ((n : Int) - ((i + 1 : Nat) : Int))) (J (i + 1)) Q) E { s with heap := h, toks := tk })
    (done : ∀ m₁ news₁ h tk, J n m₁ news₁ → Fr h₀ env.locals h m₁ → News h₀ env.locals h news₁ → Q .next { s with heap := h, toks := tk }) :
    wpAny (model prog w) A (pyIter (.ref r)) (fun it s₂ => LoopAtV prog w A h₀ env x body Q E it s₂) E s := by
  refine iter_rangeUnr hh hr hsmall hn F N fun I hI => ?_
  have key : ∀ (k i : Nat) (m₁ : Str → Option Value) (news₁ : List (Addr × Obj)), i + k = n → J i m₁ news₁ → RangeRest prog w A E h₀ env x body Q s I a₀ n k i m₁ news₁ := by
    intro k
    induction k with
    | zero =>
      intro i m₁ news₁ hi hJ
      obtain rfl : i = n := by omega
      exact RangeRest.zero fun h tk F' N' => done m₁ news₁ h tk hJ F' N'
    | succ k ih =>
      intro i m₁ news₁ hi hJ
      refine RangeRest.succ fun t h tk F' N' => ?_
      refine wpAny_mono (turn I i m₁ news₁ t h tk hI (by omega) hJ F' N') (fun f s₂ p => ?_) fun _ _ e => e
      have fin : UnrEnd h₀ env.locals { s with heap := h, toks := tk } I (itR (a₀ + ((i + 1 : Nat) : Int)) ((n : Int) - ((i + 1 : Nat) : Int))) (J (i + 1)) s₂ →
          UnrEnd h₀ env.locals { s with heap := h, toks := tk } I (itR (a₀ + ((i + 1 : Nat) : Int)) ((n : Int) - ((i + 1 : Nat) : Int))) (RangeRest prog w A E h₀ env x body Q s I a₀ n k (i + 1)) s₂ := by
        rintro ⟨h', tk', m', nw, e, F'', N'', off, hJ'⟩
        exact ⟨h', tk', m', nw, e, F'', N'', off, ih (i + 1) m' nw (by omega) hJ'⟩
      cases f with
      | ret v => exact p
      | brk => exact p
      | next => exact fin p
      | cont => exact fin p
  exact key n 0 m₀ news (by omega) h0

theorem unr_end {L I : Addr} {it : Obj} {rest : (Str → Option Value) → List (Addr × Obj) → Prop} {s₁ : Shared} {h' : Heap} {tk : Nat} {m' : Str → Option Value} {news' : List (Addr × Obj)} (F : Fr h₀ L h' m') (N : News h₀ L h' ((I, it) :: news'))
    (off : ∀ p ∈ news', p.1 ≠ I) (r : rest m' news') : UnrEnd h₀ L s₁ I it rest { s₁ with heap := h', toks := tk } := UnrEnd.intro F N news' (fun _ h => h) off r

theorem item_neg {l : Addr} {vs : List Value} {k : Int} {u : Tok} {v : Value} {value slice : PySem.Expr} {Q : Value → Shared → Prop} (hl : s.heap.IsList l vs.toArray) (h0 : k < 0) (h1 : -(vs.length : Int) ≤ k) (hfit : -(2 ^ 63) ≤ k)
    (hx : vs[(k + vs.length).toNat]? = some v) (h : Q v s)
    (hs : subscripted slice false (.ref l) (.int k u) = operate [.ref l, .int k u] (getItem (.ref l) (.int k u)) := by with_unfolding_all rfl) :
    wpAny (model prog w) A (subscriptTail value slice (.ref l) (.int k u)) Q E s :=
  tail_any hl.typeIs slot_list_getitem.lookup (wpAny_getItem_list_neg hl h0 (by simpa using h1) hfit (by simpa using hx) h) hs
theorem cut_item {l : Addr} {vs : List Value} {ns ss : List Int} {S : Int} {u : Tok} {value slice : PySem.Expr} {Q : Value → Shared → Prop} (hl : s.heap.IsList l vs.toArray) (hi : IntsAre vs ss) (hp : ss.Perm (remsOf ns S)) (ho : ss.Pairwise (· ≤ ·))
    (h1 : (repsOf ns S).sum < S) (hT : 0 < ns.sum) (hn : ns.length ≤ 8) (h : ∀ c t, CutOk ns S c → Q (.int c t) s)
    (hs : subscripted slice false (.ref l) (.int ((repsOf ns S).sum - S) u) = operate [.ref l, .int ((repsOf ns S).sum - S) u] (getItem (.ref l) (.int ((repsOf ns S).sum - S) u)) := by with_unfolding_all rfl) :
    wpAny (model prog w) A (subscriptTail value slice (.ref l) (.int ((repsOf ns S).sum - S) u)) Q E s := by
  have h2 := reps_lo (S := S) hT
  have e1 : ss.length = ns.length := by rw [hp.length_eq]; simp
  have e2 : vs.length = ns.length := by rw [hi.length, e1]
  have hlt : (((repsOf ns S).sum - S) + (ns.length : Int)).toNat < ss.length := by omega
  obtain ⟨t, ht⟩ := hi.get (((repsOf ns S).sum - S) + (ns.length : Int)).toNat (ss.getD (((repsOf ns S).sum - S) + (ns.length : Int)).toNat 0) (by simp [List.getD, List.getElem?_eq_getElem hlt])
  refine item_neg hl (by omega) (by omega) (by omega) (v := .int _ t) ?_ (h _ t ⟨ss, hp, ho, rfl⟩) hs
  rw [e2]; exact ht
theorem item_at {l : Addr} {vs : List Value} {k : Int} {u : Tok} {v : Value} {value slice : PySem.Expr} {Q : Value → Shared → Prop} (hl : s.heap.IsList l vs.toArray) (h0 : 0 ≤ k) (h1 : k < 2 ^ 63)
    (hx : vs[k.toNat]? = some v) (h : Q v s)
    (hs : subscripted slice false (.ref l) (.int k u) = operate [.ref l, .int k u] (getItem (.ref l) (.int k u)) := by with_unfolding_all rfl) :
    wpAny (model prog w) A (subscriptTail value slice (.ref l) (.int k u)) Q E s :=
  tail_any hl.typeIs slot_list_getitem.lookup (wpAny_getItem_list hl h0 h1 (by simpa using hx) h) hs
end

abbrev tupO (x y : Int) (t t' : Tok) : Obj := { cls := .type "tuple", data := .seq [Value.int x t, Value.int y t'].toArray }

def TupsAt (ns : List Int) (S T : Int) (B : Nat) (i : Nat) (ys : List Value) (TL : List (Addr × Obj)) : Prop :=
  ys.length = i ∧ (∀ j, j < i → ∃ a t t', ys[j]? = some (.ref a) ∧ (a, tupO (ns.getD j 0 * S) T t t') ∈ TL) ∧ ∀ p ∈ TL, B < p.1
end Mine
end PartComp2
section PartExc
open PySem PySem.W PySem.Calls PyProof.Rows PySem.Spec
set_option maxRecDepth 100000
namespace Mine
/-- how the def of that address binds its arguments -/
def BindsAt (K : Frag) (a : Addr) (s : Shared) (args : Args) (binds : List (Str × Value)) : Prop :=
  ∀ oc od fd osl, K.lookup a = some ⟨oc, od, .func fd, osl⟩ → BindsTo s fd args binds
theorem BindsAt.of {K : Frag} {a : Addr} {s : Shared} {args : Args} {binds : List (Str × Value)} {oc : Value} {od : Option Addr} {fd : FuncData} {osl : Array (Option Value)} (e : K.lookup a = some ⟨oc, od, .func fd, osl⟩) (b : BindsTo s fd args binds) : BindsAt K a s args binds :=
  fun _ _ _ _ e' => by rw [e] at e'; cases e'; exact b

section
variable {prog : Program} {w : World} {K : Frag} {A : Around} {s : Shared}
  {R : Result → Shared → Prop} {name qual : Str} {params : Arguments} {body : List Stmt} {scope : Scope} {dV kV doc pm cdv ct oc : Value} {an od : Option Addr} {osl : Array (Option Value)} {f : Addr} {args : Args} {binds : List (Str × Value)}
  {p : Program} {loose : List Str} {mean : ExcName → Option Value} {mg mb : Str → Option Value}
theorem code_pureB (X₀ : K.In s.heap) (T : Top p loose mean mg mb s.heap)
    (ho : K.lookup f = some ⟨oc, od, .func (fnOf name qual params body scope dV kV doc pm an cdv ct), osl⟩) (hcd : codeIn K cdv qual = true) (hroom : A.depth < recursionLimit)
    (hbind : BindsAt K f s args binds) (hkind : (binds.all fun y => scope.names.lookup y.1 == some .local || scope.names.lookup y.1 == some .cell) = true)
    (hnd : ((cellsFrom 0 scope.names []).map (·.1)).Nodup)
    (h : ∀ h₁ tk cells, Fr s.heap s.heap.objs.size h₁ (bindL (envOfC qual scope s.heap.objs.size f cdv).kindOf binds fun _ => none) → News s.heap s.heap.objs.size h₁ cells →
      CellsAre (bindC (envOfC qual scope s.heap.objs.size f cdv).kindOf binds fun _ => none) (cellsFrom (s.heap.objs.size + 1) scope.names []) cells →
      wpAny (model prog w) (A.deeper (envOfC qual scope s.heap.objs.size f cdv)) (execs body (envOfC qual scope s.heap.objs.size f cdv))
        (fun fl s' => R (.ok (.ret (match fl with | .ret v => v | _ => .none))) s')
        (fun e s' => wpAny (model prog w) (A.deeper (envOfC qual scope s.heap.objs.size f cdv)) (leaving (envOfC qual scope s.heap.objs.size f cdv) e) (fun _ s'' => R (.error e) s'') (fun e' s'' => R (.error e') s'') s')
        { s with heap := h₁, toks := tk })
    (hco : scope.isCoroutine = false) (hgen : scope.isGenerator = false) (hk : scope.kind = .function) : codeAny (model prog w) A (.call (.ref f) args) R s :=
  code_pureC X₀ T ho hcd hroom (hbind _ _ _ _ ho) hkind hnd h hco hgen hk
end
section
variable {prog : Program} {w : World} {A : Around} {E : Value → Shared → Prop} {s : Shared} {K : Frag} {h₀ : Heap} {L a : Addr} {m mg mb : Str → Option Value} {cn : Str} {cs : Scope} {ccd : Value} {cl : List (Str × Addr)} {p : Program} {loose : List Str}
  {x : Str} {C : Addr} {B newId initId : String} {bm : List Value} {np cpos pos : Pos} {Q : Flow → Shared → Prop}

/-- raise X(e, ..) of the text's own class, in a frame with cells -/
theorem Raise_ownX {e₀ : Expr} {rest : List Expr} (F : Fr h₀ L s.heap m) (X : K.In h₀) (T : TopRead p loose mg mb h₀) (ex : nsIn K mainGlobals x = some (some (.ref C))) (q : excIn K C bm newId = true) (FB : ExcBaseFacts B newId initId bm) (hh : A.handled = none)
    (h : wpAny (model prog w) A (spliced (backTo cpos (starEach (e₀ :: rest) (envX cn cs L a ccd cl)))) (fun vs s₂ => vs.length ≤ sizeLine ∧ (∀ b o, h₀.get? b = some o → s₂.heap.get? b = some o) ∧
      ∀ h' e, Heap.MadeExcOf s₂.heap h' e (.ref C) vs → E (.ref e) { s₂ with heap := h' }) E s)
    (he : starEach (e₀ :: rest) (envX cn cs L a ccd cl) = (false, eval e₀ (envX cn cs L a ccd cl)) :: starEach rest (envX cn cs L a ccd cl) := by rfl)
    (hplain : (backTo cpos (starEach rest (envX cn cs L a ccd cl))).any (·.1) = false := by rfl)
    (hk : cs.kind = .function := by rfl) (hx : (envX cn cs L a ccd cl).kindOf x = some .globalImplicit := by rfl) (hd : (x == ("__debug__" : Str)) = false := by decide) :
    wpAny (model prog w) A (exec (.Raise (some (.Call (.Name x np) (e₀ :: rest) [] cpos)) none pos) (envX cn cs L a ccd cl)) Q E s := by
  obtain ⟨tl, N, nm, q', bs, hdct, sn, sub, ab, col, dd, k0, k1, k2, k3, k5, mN, hC, hN, hni, T'⟩ := (own_of_in X T ex q).obj
  refine wpAny_Raise_call_subT (C := C) (nm := nm) (q := q') (N := N) (bs := bs) (bm := tl) (hdct := hdct) (sn := sn) (sub := sub) (ab := ab) (col := col) (dd := dd) (k0 := k0) (k1 := k1) (k2 := k2) (k3 := k3) (k5 := k5)
    FB (mN := mN) (T'.hasType FB.hasBase) hh (by rw [he]; show (false || (backTo cpos (starEach rest (envX cn cs L a ccd cl))).any (·.1)) = false; rw [hplain]; rfl) hni (nameX_K F X T ex ⟨rfl, ?_⟩ hk hx hd)
  rw [he] at h ⊢
  exact Calls.evalArgs_plain (wpAny_mono h (fun vs s₂ h₂ => ⟨rfl, h₂.1, h₂.2.1 _ _ hC, hN.keeps h₂.2.1, T'.keeps h₂.2.1, h₂.2.2⟩) fun _ _ y => y)
end

section
variable {M : Model} {A : Around} {E : Value → Shared → Prop} {s' : Shared} {base g h : Heap} {outer : List Env} {L e : Addr} {m : Str → Option Value} {env : Env} {Q : Unit → Shared → Prop}
theorem frames_mem {b : Addr} (hf : env.frame = some L) (hm : b ∈ (env :: outer).filterMap (·.frame)) : b = L ∨ b ∈ outer.filterMap (·.frame) := by
  obtain ⟨env', he, hf'⟩ := List.mem_filterMap.mp hm
  rcases List.mem_cons.mp he with rfl | he
  · rw [hf] at hf'; exact .inl (Option.some.inj hf').symm
  · exact .inr (List.mem_filterMap.mpr ⟨env', he, hf'⟩)

theorem leave_raiseX {cls : Value} {vs : List Value} (K : Below A base outer g) (hx : Heap.MadeExcOf h s'.heap e cls vs) (F : Fr g L h m) (hf : env.frame = some L) (hk : env.scope.kind = .function)
    (hQ : ∀ h' t, RaisedS base g outer e cls t vs [] h' → g.UpToSlots h' → Q () { s' with heap := h' }) :
    wpAny M (A.deeper env) (leaving env (.ref e)) Q E s' := by
  have K' := pushX K F hf hk
  have hin : ∀ env' ∈ (env :: outer), ∀ b, env'.frame = some b → b ∈ (env :: outer).filterMap (·.frame) := fun env' he b hb => List.mem_filterMap.mpr ⟨env', he, hb⟩
  have st : base.StaysIn (hideAll h ((env :: outer).filterMap (·.frame))) := fun b o q => hideAll_get _ (K'.stays b o q) fun hm => by
    rw [(K'.frames.mem hm).1] at q; cases q
  have sg : ∀ b o, g.get? b = some o → b ∉ outer.filterMap (·.frame) → (hideAll h ((env :: outer).filterMap (·.frame))).get? b = some o := fun b o q nm => hideAll_get _ (F.keep b o q) fun hm => by
    rcases frames_mem hf hm with z | z
    · rw [z, kts_self F] at q; cases q
    · exact nm z
  exact wpAny_leaves_madeW K'.stack hf (fun b o q => of_hideAll _ q) (funFrames_hide K'.frames hin) hx fun h' t x1 x2 x3 x4 =>
    hQ h' t ⟨⟨_, st, sg, (fun q hq => nomatch hq), x1, x3⟩, x2⟩ (((Heap.UpToSlots.of_keeps F.keep).trans (Heap.UpToSlots.of_keeps hx.keeps)).trans x4)
end
end Mine
end PartExc
section PartLR
open PySem PySem.W PySem.Calls PyProof.Rows
set_option maxRecDepth 100000
set_option maxHeartbeats 8000000
namespace Mine
local macro_rules | `(tactic| walk_at "MINE enterC") => `(tactic| (refine' code_pureB ?k3 ?k5 ?k6 ?k7 ?k8 ?k9 ?kB ?kD ?_ ?c2 ?c3 ?c4; (case k3 => k_asm); (case k5 => k_asm); (case k6 => k_is); (case k7 => k_is); (case k8 => ktr_room); (case k9 => with_reducible assumption); (case kB => exact rfl); (case kD => decide +kernel); (case c2 => exact rfl); (case c3 => exact rfl); (case c4 => exact rfl); k_whole))
local macro_rules | `(tactic| walk_at "exec Raise some none") => `(tactic| (refine Halt.go ?_))
local macro_rules | `(tactic| walk_at "CompSrc") => `(tactic| (refine Halt.go ?_))
local macro_rules | `(tactic| walk_at "CompEnd") => `(tactic| (refine Halt.go ?_))
local macro_rules | `(tactic| walk_at "pyIter ref") => `(tactic| (refine Halt.go ?_))

theorem tl_off {TL : List (Addr × Obj)} {B c : Nat} (h : ∀ p ∈ TL, B < p.1) (hc : c ≤ B) : ∀ p ∈ TL, p.1 ≠ c := fun p hp e => by have := h p hp; rw [e] at this; exact absurd this (Nat.not_lt.mpr hc)
local macro_rules | `(tactic| k_all) => `(tactic| (refine' tl_off ?a ?b; (case a => assumption); (case b => omega)))
local macro_rules | `(tactic| k_mem) => `(tactic| assumption)
local macro_rules | `(tactic| walk_at "MINE list") => `(tactic| exact News.isList (by with_reducible assumption) (by k_mem))
local macro_rules | `(tactic| walk_at "MINE idx") => `(tactic| ((try simp only [List.length_map, List.length_range, List.size_toArray]); omega))
local macro_rules | `(tactic| walk_at "subscriptTail Name Name ref int") => `(tactic| (k_here; first
  | (refine' item_at ?k1 ?k2 ?k3 ?k4 ?_ ?k6; (case k1 => walk_at "MINE list"); (case k4 => with_reducible assumption); (case k2 => omega); (case k3 => omega); (case k6 => with_unfolding_all rfl); k_whole)
  | (refine' item_anyK ?k1 ?k2 ?k3 ?k4 ?k5 ?_ ?k6; (case k1 => walk_at "MINE list"); (case k2 => with_reducible assumption); (case k3 => omega); (case k4 => walk_at "MINE idx"); (case k5 => omega); (case k6 => with_unfolding_all rfl); k_whole; intro _)))
local macro_rules | `(tactic| walk_at "getItem ref int") => `(tactic| (k_here; (refine' getItem_intsK ?k1 ?k2 ?k3 ?k4 ?k5 ?_; (case k1 => walk_at "MINE list"); (case k2 => with_reducible assumption); (case k3 => omega); (case k4 => walk_at "MINE idx"); (case k5 => omega); k_whole; intro _)))
local macro_rules | `(tactic| walk_at "setItem ref int int") => `(tactic| (k_here; (refine' ksa_set ?k1 ?k2 ?k3 ?k4 ?k5 ?k6 ?k7 ?_; (case k1 => k_asm); (case k2 => k_asm); (case k3 => k_upd); (case k4 => with_reducible assumption); (case k5 => omega); (case k6 => walk_at "MINE idx"); (case k7 => omega); k_whole); intro h' F' N' hi' hl' hs'; (try k_sweep)))
local macro_rules | `(tactic| walk_at "subscriptTail Name BinOp ref int") => `(tactic| (refine Halt.go ?_))
local macro_rules | `(tactic| walk_at "subscriptTail Name Constant ref int") => `(tactic| (k_here; (refine' item_tupleT ?t ?a ?b ?c ?d ?_ ?e; (case t => exact News.isTup (by with_reducible assumption) (by k_mem)); (case a => decide); (case b => decide); (case c => rfl); (case d => rfl); (case e => with_unfolding_all rfl); k_whole)))
local macro_rules | `(tactic| walk_at "subscriptTail Subscript Constant ref int") => `(tactic| (k_here; (refine' item_tupleT ?t ?a ?b ?c ?d ?_ ?e; (case t => exact News.isTup (by with_reducible assumption) (by k_mem)); (case a => decide); (case b => decide); (case c => rfl); (case d => rfl); (case e => with_unfolding_all rfl); k_whole)))
local macro_rules | `(tactic| walk_at "call builtin:sorted") => `(tactic| (k_here; (refine' kso_sorted ?k1 ?k2 ?k3 ?k4 ?k5 ?_; (case k1 => k_asm); (case k2 => k_asm); (case k3 => is_list); (case k4 => assumption); (case k5 => (simp only [List.length_map, List.length_range, List.size_toArray]; omega)); k_whole); intro D' v' n' c' h' F' N' l1 i' e' p' o' b'; (try k_lt l1); (try k_sweep)))
theorem noPy {x y : Int} (h1 : -(2 ^ 64) < y) (h2 : y < 2 ^ 64) : Builtin.divisionGoesByPylong x y = false := by
  refine PyProof.noPylong_of_log2 ?_
  by_cases h0 : y.natAbs = 0
  · rw [h0]; decide +kernel
  · have h30 : y.natAbs.log2 < 64 := (Nat.log2_lt h0).mpr (by omega)
    omega
local macro_rules | `(tactic| walk_at "binaryOp FloorDiv int int") => `(tactic| (refine floordiv_int (by omega) ?_ (Or.inl (noPy (by omega) (by omega)))))
local macro_rules | `(tactic| walk_at "UnrEnd") => `(tactic| (refine Halt.go ?_))
local macro_rules | `(tactic| k_all) => `(tactic| assumption)
local macro_rules | `(tactic| walk_at "eval Name") => `(tactic| (k_here; k_dflt (refine' nameX_L ?F ?v ?_ ?a ?b; (case F => k_asm); (case a => rfl); (case b => rfl); (case v => first | exact rfl | assumption); k_whole)))
local macro_rules | `(tactic| walk_at "eval Name") => `(tactic| (k_here; k_dflt (refine' nameX_C ?N ?c ?m ?d ?_ ?a ?b; (case a => rfl); (case b => rfl); (case N => k_asm); (case c => rfl); (case m => k_mem); (case d => with_reducible assumption); k_whole)))
theorem off1_mem {D : Addr} : ∀ {l : List (Addr × Obj)}, LCg.Off1 D l → ∀ p ∈ l, p.1 ≠ D
  | [], _, _, h => nomatch h
  | _ :: _, x, p, h => by
    rcases List.mem_cons.mp h with rfl | h
    · exact x.1
    · exact off1_mem x.2 p h
theorem tups_snoc {ns : List Int} {S T : Int} {B i : Nat} {ys : List Value} {TL : List (Addr × Obj)} {a : Addr} {n : Int} {t t' : Tok} (h : TupsAt ns S T B i ys TL) (hn : ns[i]? = some n) (ha : B < a) :
    TupsAt ns S T B (i + 1) (ys ++ [.ref a]) ((a, tupO (n * S) T t t') :: TL) := by
  obtain ⟨h1, h2, h3⟩ := h
  refine ⟨by simp [h1], fun j hj => ?_, fun p hp => ?_⟩
  · by_cases e : j = i
    · subst e
      refine ⟨a, t, t', by simp [← h1], ?_⟩
      have : ns.getD j 0 = n := by simp [List.getD, hn]
      rw [this]; exact List.mem_cons_self
    · obtain ⟨a', t1, t2, q1, q2⟩ := h2 j (by omega)
      exact ⟨a', t1, t2, by rw [List.getElem?_append_left (by omega)]; exact q1, List.mem_cons_of_mem _ q2⟩
  · rcases List.mem_cons.mp hp with rfl | hp
    · exact ha
    · exact h3 p hp

theorem lr_core (w : World) {mean : ExcName → Option Value} {mg mb : Str → Option Value} {dp un : Nat} {gd : Option (List Code)} {outs : List Env} {s : Shared} {Q E : Value → Shared → Prop} {l : Addr} {vs : List Value} {ns : List Int} {S : Int} {t : Tok} {ta : Bool} {vals : List Value}
    (hb : BindsAt (hd.heap_39 w.params) 33 s ⟨vals, []⟩ [(Str.ofString "votes", .ref l), (Str.ofString "seats", .int S t), (Str.ofString "tiesallowed", .bool ta)])
    (hl : s.heap.IsList l vs.toArray) (hi : IntsAre vs ns) (hlen : ns.length ≤ 8) (hS : 1 ≤ S) (hS2 : S < 100) (hpos : ∀ x ∈ ns, 0 ≤ x) (hsum : 0 < ns.sum) (hbig : ns.sum < 2^60) (hdp : dp + 1 < recursionLimit) (hun : un + 20 < cLine) {base : Heap}
    (B : Below (ar dp un gd outs) base outs s.heap)
    (h : ∀ r ys n out tie h' tk', Ext s.heap h' → s.heap.get? r = none → h'.get? r = some (lob ys n) → IntsAre ys out → LrOut ns S out tie → (tie = true → ta = true) → Q (.ref r) { s with heap := h', toks := tk' })
    (hE : ∀ e t vs out h' tk', LrOut ns S out true → ta = false → RaisedS base s.heap outs e (.ref 24) t vs [] h' → s.heap.UpToSlots h' → E (.ref e) { s with heap := h', toks := tk' }) :
    (hd.heap_39 w.params).In s.heap → Top hd.view_39 (looseW hd.view_39 [Str.ofString "largest_remainder"]) mean mg mb s.heap → wpAny (model PySem.Challenge.rw_ab5001_01.prog w) (ar dp un gd outs) (call (.ref 33) vals) Q E s := by
  w_on
  k_fill
  intro X T
  refine wpAny_call ?_
  k_dflt walk_at "MINE enterC"
  intro h₁ tk₁ cells F₁ N₁ Y
  obtain ⟨oR, oQ, oS, oV, rfl, d1, d2, d3, d4⟩ := CellsAre.four Y
  clear Y
  replace d3 : oS.data = .cell (some (.int S t)) := d3
  replace d4 : oV.data = .cell (some (.ref l)) := d4
  dsimp only
  k_unmd
  k_fold
  k_steps
  · exfalso; omega
  refine Halt.intro ?_
  have hvl := hi.length
  rename Fr _ _ _ _ => F
  rename News _ _ _ _ => N
  refine LCg.CompSrc.base rfl F N hl (by rw [List.size_toArray, sizeLine_eq]; omega) ?_
  intro g
  refine rest_tail (TupsAt ns S ns.sum (s.heap.objs.size + 4)) ⟨rfl, fun j hj => absurd hj (Nat.not_lt_zero _), fun p hp => nomatch hp⟩ ?_ ?_
  · clear F N
    intro i v ys TL I oI C oC D m₂ h' tk E' hin hv hJ hC hx F N off ne
    obtain ⟨n, t0, rfl, hn⟩ := hi.at i v (by simpa using hv)
    simp only [List.cons_append, List.nil_append] at N
    k_steps
    rename_i h2 tk2 t2 a h3 F3 N3 l1
    refine Halt.intro ?_
    refine end_one F3 (by exact N3) off (by omega) (by omega) (by omega) (Or.inl hl) ⟨_, rfl, ?_⟩
    exact tups_snoc hJ hn (by omega)
  · clear F N
    intro ys TL hJ D h' tk' F N o1
    have hTL := hJ.2.2
    simp only [List.cons_append, List.nil_append, LCg.Off1] at o1 N
    dsimp only
    k_steps
    refine Halt.intro ?_
    rename_i h2 oq F3 N3 dq
    have hyl : ys.length = ns.length := by rw [hJ.1, List.size_toArray, hvl]
    refine LCg.CompSrc.ledger rfl F3 N3 (by k_mem) (by rw [List.size_toArray, sizeLine_eq]; omega) ?_
    intro g
    refine rest_ints (fun i => Int.fdiv (ns.getD i 0 * S) ns.sum) ?_ ?_
    · clear F3 N3
      intro i v ys2 I oI C oC D2 m₂ h' tk E' hin hv hC hx F N off ne
      obtain ⟨q, t1, t2, hq, hmem⟩ := hJ.2.1 i (by simpa [hyl, hvl] using hin)
      have hv2 : v = .ref q := by
        have : ys[i]? = some v := by simpa using hv
        rw [hq] at this; exact (Option.some.inj this).symm
      subst hv2
      k_steps
      rename Fr _ _ _ _ => F3
      rename News _ _ _ _ => N3
      refine Halt.intro ?_
      refine end_none F3 (by exact N3) off (Or.inr ⟨_, (by k_mem), rfl, _, rfl⟩) ⟨rfl, _, rfl⟩
    · clear F3 N3
      intro rs hrs D2 h' tk' F N o2
      have hrs' : IntsAre rs (repsOf ns S) := by
        have e : ys.toArray.size = ns.length := by rw [List.size_toArray, hyl]
        rw [e] at hrs; exact hrs
      clear hrs
      have hrl := hrs'.length
      simp only [LCg.Off1] at o2 N
      dsimp only
      k_steps
      · refine Halt.intro ?_
        rename Obj => orep
        rename IsRange _ _ _ _ _ _ _ _ => R4
        rename Fr _ _ _ _ => F4
        rename News _ _ _ _ => N4
        refine LCg.CompSrc.range (n := ns.length) rfl F4 N4 R4 (small_one (by omega) (by omega) (by omega) (by omega)) (by rw [rangeSize_nat]; omega) (by rw [sizeLine_eq]; omega) ?_
        intro g
        refine rest_ints (fun i => ns.getD i 0 * S - (repsOf ns S).getD i 0 * ns.sum) ?_ ?_
        · clear F4 N4 R4
          intro i v ys2 I oI C oC D3 m₂ h' tk E' hin hv hC hx F N off ne
          obtain ⟨t3, hv⟩ := hv
          rw [Int.zero_add] at hv
          subst hv
          obtain ⟨q, t1, t2, hq, hmem⟩ := hJ.2.1 i (by simpa [hvl] using hin)
          have hq' : ys[(i : Int).toNat]? = some (.ref q) := hq
          k_steps
          rename Fr _ _ _ _ => F3
          rename News _ _ _ _ => N3
          refine Halt.intro ?_
          refine end_none F3 (by exact N3) off trivial ⟨rfl, _, rfl⟩
        · clear F4 N4 R4
          intro ms hms D3 h' tk' F N o3
          replace hms : IntsAre ms (remsOf ns S) := hms
          have hTD2 : ∀ p ∈ TL, p.1 ≠ D2 := off1_mem o2.2.2.2.2.2
          have hml := hms.length
          simp only [LCg.Off1] at o3 N
          dsimp only
          k_steps
          refine Halt.intro ?_
          rename_i D4 v4 n4 c4 h4 hF4 hN4 hI4 he4 hp4 ho4 hb4 l4 h5 tk5 t5 F5 N5
          clear hb4
          refine cut_item (by is_list) hI4 hp4 ho4 (by assumption) hsum hlen ?_ (by with_unfolding_all rfl)
          intro c tc hcut
          k_steps
          refine Halt.intro ?_
          rename IsRange _ _ _ _ _ _ _ _ => R6
          rename Fr _ _ _ _ => F6
          rename News _ _ _ _ => N6
          have hsmall : Builtin.Range.small 0 (ns.length : Int) 1 = true := small_one (by omega) (by omega) (by omega) (by omega)
          refine range_gen (n := ns.length) (fun i m news => m (Str.ofString "ties") = some (.bool (lrLoop S c (remsOf ns S) (repsOf ns S, false) i).2) ∧ m (Str.ofString "remainders") = some (.ref D3) ∧ (∃ tc, m (Str.ofString "cutoff") = some (.int c tc)) ∧ m (Str.ofString "tiesallowed") = some (.bool ta) ∧
              ∃ cur, IntsAre cur (lrLoop S c (remsOf ns S) (repsOf ns S, false) i).1 ∧
                news = (D4, W.listOf v4.toArray c4) :: (D3, LCg.lst ms) :: (D2, W.listOf cur.toArray rs.length) :: (D, LCg.lst ys) :: (s.heap.objs.size + 1 + 1 + 1 + 1, orep) :: (s.heap.objs.size + 1 + 1 + 1, oq) :: (s.heap.objs.size + 1 + 1, oS) :: (s.heap.objs.size + 1, oV) :: TL)
            rfl R6 hsmall (by rw [rangeSize_nat]; omega) F6 N6 ⟨rfl, rfl, ⟨tc, rfl⟩, rfl, rs, hrs', rfl⟩ ?_ ?_
          · clear R6 F6 N6
            rintro I i m₁ news₁ ti h' tk' hI hin ⟨hm1, hm2, ⟨tc', hm3⟩, hm4, cur, hcur, rfl⟩ F N
            have hcl := hcur.length
            have hll := lrLoop_len (S := S) (c := c) (ms := remsOf ns S) (st := (repsOf ns S, false)) i
            have hrlen : (repsOf ns S).length = ns.length := by simp
            dsimp only at hll
            simp only [Int.zero_add] at F
            have hTI : ∀ p ∈ TL, p.1 ≠ I := fun p hp => Nat.ne_of_lt (hI p (by simp [hp]))
            k_lt hI
            k_steps
            all_goals (
              refine Halt.intro ?_
              rename Fr _ _ _ _ => F9
              rename News _ _ _ _ => N9
              refine unr_end F9 N9 (by ((repeat (refine List.forall_mem_cons.mpr ⟨by k_ne, ?_⟩)); exact hTI)) ⟨?_, ?_, ⟨tc', ?_⟩, ?_, _, ?_, rfl⟩
              · clear o1 o2 o3 l4 hI
                rw [show lrLoop S c (remsOf ns S) (repsOf ns S, false) (i + 1) = lrStep S c (remsOf ns S) i (lrLoop S c (remsOf ns S) (repsOf ns S, false) i) from rfl]
                first
                  | (rw [lrStep_a (by omega) (by omega)]; first | exact rfl | (rename (lrLoop _ _ _ _ _).snd = true => hsn; rw [hsn] at hm1; exact hm1))
                  | (rw [lrStep_b (by omega) (by omega)]; exact hm1)
                  | (rw [lrStep_c (by omega)]; exact hm1)
              · exact hm2
              · exact hm3
              · exact hm4
              · clear o1 o2 o3 l4 hI
                rw [show lrLoop S c (remsOf ns S) (repsOf ns S, false) (i + 1) = lrStep S c (remsOf ns S) i (lrLoop S c (remsOf ns S) (repsOf ns S, false) i) from rfl]
                first
                  | (rw [lrStep_a (by omega) (by omega)]; exact hcur)
                  | (rw [lrStep_b (by omega) (by omega)]; with_reducible assumption)
                  | (rw [lrStep_c (by omega)]; exact hcur))
          · clear R6 F6 N6
            rintro m₁ news₁ h' tk' ⟨hm1, hm2, ⟨tc', hm3⟩, hm4, cur, hcur, rfl⟩ F N
            clear o1 o2 o3 l4
            have hlro : ∀ out tie, (out, tie) = lrLoop S c (remsOf ns S) (repsOf ns S, false) ns.length → LrOut ns S out tie := fun out tie e => .inr ⟨by assumption, c, hcut, e⟩
            k_steps
            · dsimp only
              exact h D2 cur _ _ _ _ _ F.keep (N (D2, lob cur rs.length) (by k_mem)).2.2 (N (D2, lob cur rs.length) (by k_mem)).1 hcur (hlro _ _ rfl) (fun _ => by assumption)
            · refine Halt.intro ?_
              refine' Raise_ownX F X (topRead_of T) ?rxe ?rxq PySem.F.excBase_Exception rfl ?_ ?rxa ?rxb ?rxc ?rxd ?rxf
              case rxe => k_dflt k_is
              case rxq => k_dflt k_exc
              case rxa => rfl
              case rxb => rfl
              case rxc => rfl
              case rxd => rfl
              case rxf => decide
              k_steps
              rename Heap.MadeExcOf _ _ _ _ _ => hx
              rename (lrLoop _ _ _ _ _).snd = true => hsn
              refine leave_raiseX B hx F rfl rfl (fun h'' tt R U => ?_)
              exact hE _ tt _ _ h'' _ (hlro (lrLoop S c (remsOf ns S) (repsOf ns S, false) ns.length).1 true (Prod.ext rfl hsn.symm)) (by assumption) R U
            · dsimp only
              refine h D2 cur _ _ _ _ _ F.keep (N (D2, lob cur rs.length) (by k_mem)).2.2 (N (D2, lob cur rs.length) (by k_mem)).1 hcur (hlro _ _ rfl) (fun e => ?_)
              rename (lrLoop _ _ _ _ _).snd = false => hsn
              rw [hsn] at e; cases e
      · rename Fr _ _ _ _ => F5
        rename News _ _ _ _ => N5
        exact h D2 rs _ _ _ _ _ F5.keep (N5 (D2, lob rs rs.length) (by k_mem)).2.2 (N5 (D2, lob rs rs.length) (by k_mem)).1 hrs' (.inl ⟨by omega, rfl, rfl⟩) (fun e => nomatch e)
end Mine
end PartLR
section PartLR2
open PySem PySem.W PySem.Calls PyProof.Rows
set_option maxRecDepth 100000
set_option maxHeartbeats 8000000
namespace Mine

theorem lr_spec (w : World) {mean : ExcName → Option Value} {mg mb : Str → Option Value} {dp un : Nat} {gd : Option (List Code)} {outs : List Env} {s : Shared} {Q E : Value → Shared → Prop} {l : Addr} {vs : List Value} {ns : List Int} {S : Int} {t : Tok} {ta : Bool}
    (hl : s.heap.IsList l vs.toArray) (hi : IntsAre vs ns) (hlen : ns.length ≤ 8) (hS : 1 ≤ S) (hS2 : S < 100) (hpos : ∀ x ∈ ns, 0 ≤ x) (hsum : 0 < ns.sum) (hbig : ns.sum < 2^60) (hdp : dp + 1 < recursionLimit) (hun : un + 20 < cLine) {base : Heap}
    (B : Below (ar dp un gd outs) base outs s.heap)
    (h : ∀ r ys n out tie h' tk', Ext s.heap h' → s.heap.get? r = none → h'.get? r = some (lob ys n) → IntsAre ys out → LrOut ns S out tie → (tie = true → ta = true) → Q (.ref r) { s with heap := h', toks := tk' })
    (hE : ∀ e t vs out h' tk', LrOut ns S out true → ta = false → RaisedS base s.heap outs e (.ref 24) t vs [] h' → s.heap.UpToSlots h' → E (.ref e) { s with heap := h', toks := tk' }) :
    (hd.heap_39 w.params).In s.heap → Top hd.view_39 (looseW hd.view_39 [Str.ofString "largest_remainder"]) mean mg mb s.heap → wpAny (model PySem.Challenge.rw_ab5001_01.prog w) (ar dp un gd outs) (call (.ref 33) [.ref l, .int S t, .bool ta]) Q E s := by
  w_on
  k_fill
  intro X T
  have hb : BindsAt (hd.heap_39 w.params) 33 s ⟨[.ref l, .int S t, .bool ta], []⟩ [(Str.ofString "votes", .ref l), (Str.ofString "seats", .int S t), (Str.ofString "tiesallowed", .bool ta)] := by
    refine' BindsAt.of ?e9 ?b9
    case e9 => k_dflt k_is
    case b9 => k_dflt (exact binds_K (by k_in) rfl (by k_is) rfl rfl rfl)
  exact lr_core w hb hl hi hlen hS hS2 hpos hsum hbig hdp hun B h hE X T
theorem lr_spec2 (w : World) {mean : ExcName → Option Value} {mg mb : Str → Option Value} {dp un : Nat} {gd : Option (List Code)} {outs : List Env} {s : Shared} {Q E : Value → Shared → Prop} {l : Addr} {vs : List Value} {ns : List Int} {S : Int} {t : Tok}
    (hl : s.heap.IsList l vs.toArray) (hi : IntsAre vs ns) (hlen : ns.length ≤ 8) (hS : 1 ≤ S) (hS2 : S < 100) (hpos : ∀ x ∈ ns, 0 ≤ x) (hsum : 0 < ns.sum) (hbig : ns.sum < 2^60) (hdp : dp + 1 < recursionLimit) (hun : un + 20 < cLine) {base : Heap}
    (B : Below (ar dp un gd outs) base outs s.heap)
    (h : ∀ r ys n out tie h' tk', Ext s.heap h' → s.heap.get? r = none → h'.get? r = some (lob ys n) → IntsAre ys out → LrOut ns S out tie → Q (.ref r) { s with heap := h', toks := tk' }) :
    (hd.heap_39 w.params).In s.heap → Top hd.view_39 (looseW hd.view_39 [Str.ofString "largest_remainder"]) mean mg mb s.heap → wpAny (model PySem.Challenge.rw_ab5001_01.prog w) (ar dp un gd outs) (call (.ref 33) [.ref l, .int S t]) Q E s := by
  w_on
  k_fill
  intro X T
  have hb : BindsAt (hd.heap_39 w.params) 33 s ⟨[.ref l, .int S t], []⟩ [(Str.ofString "votes", .ref l), (Str.ofString "seats", .int S t), (Str.ofString "tiesallowed", .bool true)] := by
    refine' BindsAt.of ?e9 ?b9
    case e9 => k_dflt k_is
    case b9 => k_dflt (exact binds_K (by k_in) rfl (by k_is) rfl rfl rfl)
  exact lr_core w hb hl hi hlen hS hS2 hpos hsum hbig hdp hun B (fun r ys n out tie h' tk' a b c d e _ => h r ys n out tie h' tk' a b c d e) (fun _ _ _ _ _ _ _ e => nomatch e) X T
end Mine
end PartLR2
section PartIQ
open PySem PySem.W PySem.Calls PyProof.Rows
set_option maxRecDepth 100000
set_option maxHeartbeats 8000000
namespace Mine
local macro_rules | `(tactic| walk_at "MINE enter") => `(tactic| (refine' code_pure ?k3 ?k5 ?k6 ?k7 ?k8 ?k9 ?kB ?_ ?c2 ?c3 ?c4 ?c5; (case k3 => k_asm); (case k5 => k_asm); (case k6 => k_is); (case k7 => k_is); (case k8 => ktr_room); (case k9 => first | exact BindsTo.of_eq rfl | exact binds_K (by k_in) rfl (by k_is) rfl rfl rfl); (case c5 => decide); (case kB => exact locs rfl); (case c2 => exact rfl); (case c3 => exact rfl); (case c4 => exact rfl); k_whole))
local macro_rules | `(tactic| walk_at "pyIter ref") => `(tactic| (refine Halt.go ?_))
local macro_rules | `(tactic| walk_at "UnrEnd") => `(tactic| (refine Halt.go ?_))
local macro_rules | `(tactic| walk_at "MINE list") => `(tactic| first | with_reducible assumption | exact Fr.lst (by with_reducible assumption) (by with_reducible assumption))
local macro_rules | `(tactic| walk_at "subscriptTail Name Name ref int") => `(tactic| (k_here; (refine' item_anyK ?k1 ?k2 ?k3 ?k4 ?k5 ?_ ?k6; (case k1 => walk_at "MINE list"); (case k2 => with_reducible assumption); (case k3 => omega); (case k4 => omega); (case k5 => omega); (case k6 => with_unfolding_all rfl); k_whole; intro _)))
local macro_rules | `(tactic| walk_at "eval Name") => `(tactic| (k_here; k_dflt (refine' nameX_L ?F ?v ?_ ?a ?b; (case F => k_asm); (case a => rfl); (case b => rfl); (case v => first | exact rfl | assumption); k_whole)))

theorem iq_spec (w : World) {mean : ExcName → Option Value} {mg mb : Str → Option Value} {dp un : Nat} {gd : Option (List Code)} {outs : List Env} {s : Shared} {Q E : Value → Shared → Prop} {l r : Addr} {vs ys : List Value} {ns out : List Int} {S : Int} {t : Tok}
    (hl : s.heap.IsList l vs.toArray) (hi : IntsAre vs ns) (hl2 : s.heap.IsList r ys.toArray) (hi2 : IntsAre ys out) (hlen : ns.length ≤ 100) (hlen2 : out.length = ns.length) (hsum : out.sum = S) (hS : 0 ≤ S) (hS2 : S < 100) (hT0 : 0 ≤ ns.sum) (hT : ns.sum < 2 ^ 60)
    (hq : ∀ i : Nat, i < ns.length → (out.getD (i : Int).toNat 0 - 1) * ns.sum < ns.getD (i : Int).toNat 0 * S ∧ ns.getD (i : Int).toNat 0 * S < (out.getD (i : Int).toNat 0 + 1) * ns.sum) (hdp : dp + 1 < recursionLimit) (hun : un + 20 < cLine)
    (h : ∀ h' tk', Ext s.heap h' → Q (.bool true) { s with heap := h', toks := tk' }) :
    (hd.heap_39 w.params).In s.heap → Top hd.view_39 (looseW hd.view_39 [Str.ofString "largest_remainder"]) mean mg mb s.heap → wpAny (model PySem.Challenge.rw_ab5001_01.prog w) (ar dp un gd outs) (call (.ref 64) [.ref l, .int S t, .ref r]) Q E s := by
  w_on
  k_fill
  intro X T
  refine wpAny_call ?_
  k_dflt walk_at "MINE enter"
  intro h₁ F₁ N₁
  dsimp only
  k_fold
  have e1 := hi.length
  have e2 := hi2.length
  k_steps
  · rename (_ : Int) ≠ _ => hne
    exact absurd (congrArg Nat.cast hlen2) hne
  · rename (_ : Int) ≠ _ => hne
    exact absurd hsum hne
  refine Halt.intro ?_
  rename IsRange _ _ _ _ _ _ _ _ => R6
  rename Fr _ _ _ _ => F6
  rename News _ _ _ _ => N6
  have hsmall : Builtin.Range.small 0 (ns.length : Int) 1 = true := small_one (by omega) (by omega) (by omega) (by omega)
  refine range_gen (n := ns.length) (fun i m news => m (Str.ofString "told") = some (.ref r) ∧ m (Str.ofString "votes") = some (.ref l) ∧ m (Str.ofString "seats") = some (.int S t) ∧ (∃ tt, m (Str.ofString "total") = some (.int ns.sum tt)) ∧ news = [])
     rfl R6 hsmall (by rw [rangeSize_nat]; omega) F6 N6 ⟨rfl, rfl, rfl, ⟨_, rfl⟩, rfl⟩ ?_ ?_
  · clear R6 F6 N6
    rintro I i m₁ news₁ ti h' tk' hI hin ⟨hm1, hm2, hm3, ⟨tt, hm4⟩, rfl⟩ F N
    simp only [Int.zero_add] at F
    obtain ⟨hq1, hq2⟩ := hq i hin
    k_steps
    refine Halt.intro ?_
    rename Fr _ _ _ _ => F9
    rename News _ _ _ _ => N9
    exact unr_end F9 N9 (fun p hp => nomatch hp) ⟨hm1, hm2, hm3, ⟨tt, hm4⟩, rfl⟩
  · rintro m₁ news₁ h' tk' ⟨hm1, hm2, hm3, ⟨tt, hm4⟩, rfl⟩ F N
    k_steps
    exact h _ _ F.keep
end Mine
end PartIQ
section PartCell
open PySem PySem.W PySem.Calls PyProof.Rows
set_option maxRecDepth 100000
set_option maxHeartbeats 8000000
namespace Mine
local macro_rules | `(tactic| walk_at "MINE enter") => `(tactic| (refine' code_pure ?k3 ?k5 ?k6 ?k7 ?k8 ?k9 ?kB ?_ ?c2 ?c3 ?c4 ?c5; (case k3 => k_asm); (case k5 => k_asm); (case k6 => k_is); (case k7 => k_is); (case k8 => ktr_room); (case k9 => first | exact BindsTo.of_eq rfl | exact binds_K (by k_in) rfl (by k_is) rfl rfl rfl); (case c5 => decide); (case kB => exact locs rfl); (case c2 => exact rfl); (case c3 => exact rfl); (case c4 => exact rfl); k_whole))
local macro_rules | `(tactic| walk_at "MINE list") => `(tactic| first | with_reducible assumption | exact Fr.lst (by with_reducible assumption) (by with_reducible assumption))
local macro_rules | `(tactic| walk_at "subscriptTail Name Name ref int") => `(tactic| (k_here; (refine' item_anyK ?k1 ?k2 ?k3 ?k4 ?k5 ?_ ?k6; (case k1 => walk_at "MINE list"); (case k2 => with_reducible assumption); (case k3 => omega); (case k4 => omega); (case k5 => omega); (case k6 => with_unfolding_all rfl); k_whole; intro _)))

theorem cell_spec (w : World) {mean : ExcName → Option Value} {mg mb : Str → Option Value} {dp un : Nat} {gd : Option (List Code)} {outs : List Env} {s : Shared} {Q E : Value → Shared → Prop} {l : Addr} {vs : List Value} {ns : List Int} {k : Int} {t : Tok}
    (hl : s.heap.IsList l vs.toArray) (hi : IntsAre vs ns) (hlen : ns.length ≤ 100) (hk : 0 ≤ k) (hk2 : k < 1000) (hdp : dp < recursionLimit) (hun : un + 8 < cLine)
    (h : ∀ c t' h' tk', 0 ≤ c → Ext s.heap h' → Q (.int c t') { s with heap := h', toks := tk' }) :
    (hd.heap_39 w.params).In s.heap → Top hd.view_39 (looseW hd.view_39 [Str.ofString "largest_remainder"]) mean mg mb s.heap → wpAny (model PySem.Challenge.rw_ab5001_01.prog w) (ar dp un gd outs) (call (.ref 40) [.ref l, .int k t]) Q E s := by
  w_on
  k_fill
  intro X T
  refine wpAny_call ?_
  k_dflt walk_at "MINE enter"
  intro h₁ F₁ N₁
  dsimp only
  k_fold
  k_steps
  · rename Fr _ _ _ _ => F
    refine h _ _ _ _ ?_ F.keep
    split <;> omega
  · rename Fr _ _ _ _ => F
    exact h _ _ _ _ (by omega) F.keep
end Mine
end PartCell
section PartVotes
open PySem PySem.W PySem.Calls PyProof.Rows
set_option maxRecDepth 100000
set_option maxHeartbeats 8000000
namespace Mine
local macro_rules | `(tactic| walk_at "MINE enterC") => `(tactic| (refine' code_pureC ?k3 ?k5 ?k6 ?k7 ?k8 ?k9 ?kB ?kD ?_ ?c2 ?c3 ?c4; (case k3 => k_asm); (case k5 => k_asm); (case k6 => k_is); (case k7 => k_is); (case k8 => ktr_room); (case k9 => first | exact BindsTo.of_eq rfl | exact binds_K (by k_in) rfl (by k_is) rfl rfl rfl); (case kB => exact rfl); (case kD => decide +kernel); (case c2 => exact rfl); (case c3 => exact rfl); (case c4 => exact rfl); k_whole))
local macro_rules | `(tactic| walk_at "CompSrc") => `(tactic| (refine Halt.go ?_))
local macro_rules | `(tactic| walk_at "CompEnd") => `(tactic| (refine Halt.go ?_))
local macro_rules | `(tactic| walk_at "MINE list") => `(tactic| first | with_reducible assumption | exact Fr.lst (by with_reducible assumption) (by with_reducible assumption))
local macro_rules | `(tactic| walk_at "MINE ext") => `(tactic| ((rename Ext _ _ => hX9); (rename Fr _ _ _ _ => F9); (rename News _ _ _ _ => N9); (have F8 := Fr.keeps F9 hX9); (have N8 := News.grown N9 hX9); clear hX9; (try k_sweep)))
local macro_rules | `(tactic| walk_at "call ref") => `(tactic| (k_here; k_dflt (refine' cell_spec _ ?cl ?ci ?ca ?cb ?cc ?cd ?ce ?_ ?cX ?cT; (case cl => walk_at "MINE list"); (case ci => with_reducible assumption); (case ca => assumption); (case cb => omega); (case cc => omega); (case cd => ktr_room); (case ce => ktr_units); (case cX => k_in); (case cT => exact Top.keeps (by with_reducible assumption) (Fr.keep (by with_reducible assumption))); k_whole); intro c' t' h' tk' hc' hX'; walk_at "MINE ext"; (try dsimp only); (try k_fold)))

theorem votes_spec (w : World) {mean : ExcName → Option Value} {mg mb : Str → Option Value} {dp un : Nat} {gd : Option (List Code)} {outs : List Env} {s : Shared} {Q E : Value → Shared → Prop} {l : Addr} {vs : List Value} {ns : List Int} {P Ls : Int} {t t2 : Tok}
    (hl : s.heap.IsList l vs.toArray) (hi : IntsAre vs ns) (hlen : ns.length ≤ 100) (hP : 1 ≤ P) (hP2 : P < 100) (hL : 0 ≤ Ls) (hL2 : Ls < 100) (hdp : dp + 2 < recursionLimit) (hun : un + 30 < cLine)
    (h : ∀ r ys n out h' tk', Ext s.heap h' → s.heap.get? r = none → h'.get? r = some (lob ys n) → IntsAre ys out → out.length = P.toNat → (∀ x ∈ out, Ls ≤ x ∧ x < Ls + 10 ^ 12) → Q (.ref r) { s with heap := h', toks := tk' }) :
    (hd.heap_39 w.params).In s.heap → Top hd.view_39 (looseW hd.view_39 [Str.ofString "largest_remainder"]) mean mg mb s.heap → wpAny (model PySem.Challenge.rw_ab5001_01.prog w) (ar dp un gd outs) (call (.ref 45) [.ref l, .int P t, .int Ls t2]) Q E s := by
  w_on
  k_fill
  intro X T
  refine wpAny_call ?_
  k_dflt walk_at "MINE enterC"
  intro h₁ tk₁ cells F₁ N₁ Y
  obtain ⟨oT, oL, oS, rfl, d1, d2, d3⟩ := CellsAre.three Y
  clear Y
  dsimp only
  k_unmd
  k_fold
  k_steps
  all_goals (
    refine Halt.intro ?_
    rename IsRange _ _ _ _ _ _ _ _ => R4
    rename Fr _ _ _ _ => F4
    rename News _ _ _ _ => N4
    refine LCg.CompSrc.range (n := P.toNat) rfl F4 N4 R4 (small_one (by omega) (by omega) (by omega) (by omega)) (by rw [rangeSize_nat]; omega) (by rw [sizeLine_eq]; omega) ?_
    intro g
    refine rest_tail (fun i ys TL => TL = [] ∧ ∃ out, IntsAre ys out ∧ out.length = i ∧ ∀ x ∈ out, Ls ≤ x ∧ x < Ls + 10 ^ 12) ⟨rfl, [], .nil, rfl, fun x hx => nomatch hx⟩ ?_ ?_
    · clear F4 N4 R4
      rintro i v ys TL I oI C oC D m₂ h' tk' E' hin ⟨tv, hv⟩ ⟨rfl, out, ho, hol, hob⟩ hC hx F N off ne
      rw [Int.zero_add] at hv
      subst hv
      simp only [List.append_nil] at N
      k_steps
      rename Fr _ _ _ _ => F3
      rename News _ _ _ _ => N3
      refine Halt.intro ?_
      refine end_none F3 (by exact N3) off trivial ⟨[], rfl, rfl, out ++ [_], IntsAre.append ho (.cons _ _ .nil), by simp [hol], fun x hx => ?_⟩
      rcases List.mem_append.mp hx with hx | hx
      · exact hob x hx
      · rw [List.mem_singleton.mp hx]
        refine ⟨Int.le_add_of_nonneg_right (Int.fmod_nonneg_of_pos _ (by decide)), Int.add_lt_add_left (Int.lt_of_lt_of_le (Int.fmod_lt_of_pos _ (by decide)) (by decide)) _⟩
    · clear F4 N4 R4
      rintro ys TL ⟨rfl, out, ho, hol, hob⟩ D h' tk' F N o1
      dsimp only
      k_steps
      exact h D ys _ out _ _ F.keep (N (D, LCg.lst ys) (by k_mem)).2.2 (N (D, LCg.lst ys) (by k_mem)).1 ho hol hob)
end Mine
end PartVotes
section PartStrict
open PySem PySem.W PySem.Calls PyProof.Rows
set_option maxRecDepth 100000
set_option maxHeartbeats 8000000
namespace Mine
local macro_rules | `(tactic| walk_at "MINE enter") => `(tactic| (refine' code_pure ?k3 ?k5 ?k6 ?k7 ?k8 ?k9 ?kB ?_ ?c2 ?c3 ?c4 ?c5; (case k3 => k_asm); (case k5 => k_asm); (case k6 => k_is); (case k7 => k_is); (case k8 => ktr_room); (case k9 => first | exact BindsTo.of_eq rfl | exact binds_K (by k_in) rfl (by k_is) rfl rfl rfl); (case c5 => decide); (case kB => exact locs rfl); (case c2 => exact rfl); (case c3 => exact rfl); (case c4 => exact rfl); k_whole))
local macro_rules | `(tactic| walk_at "call ref") => `(tactic| (refine Halt.go ?_))
local macro_rules | `(tactic| walk_at "noteFrame ref") => `(tactic| (refine Halt.go ?_))

theorem strict_spec (w : World) {mean : ExcName → Option Value} {mg mb : Str → Option Value} {dp un : Nat} {gd : Option (List Code)} {outs : List Env} {s : Shared} {Q E : Value → Shared → Prop} {l : Addr} {vs : List Value} {ns : List Int} {S : Int} {t : Tok}
    (hl : s.heap.IsList l vs.toArray) (hi : IntsAre vs ns) (hlen : ns.length ≤ 8) (hS : 1 ≤ S) (hS2 : S < 100) (hpos : ∀ x ∈ ns, 0 ≤ x) (hsum : 0 < ns.sum) (hbig : ns.sum < 2^60) (hdp : dp + 2 < recursionLimit) (hun : un + 30 < cLine) {base : Heap}
    (B : Below (ar dp un gd outs) base outs s.heap) (D : KtsDicts (outs.filterMap (·.frame)) s.heap)
    (h1 : ∀ r ys n out h' tk', Ext s.heap h' → s.heap.get? r = none → h'.get? r = some (lob ys n) → IntsAre ys out → LrOut ns S out false → Q (.ref r) { s with heap := h', toks := tk' })
    (h2 : ∀ out g' h' tk', LrOut ns S out true → KtsTurn (outs.filterMap (·.frame)) s.heap g' → Ext g' h' → Q .none { s with heap := h', toks := tk' }) :
    (hd.heap_39 w.params).In base → Top hd.view_39 (looseW hd.view_39 [Str.ofString "largest_remainder"]) mean mg mb base → wpAny (model PySem.Challenge.rw_ab5001_01.prog w) (ar dp un gd outs) (call (.ref 57) [.ref l, .int S t]) Q E s := by
  w_on
  k_fill
  intro XB TB
  have X : (hd.heap_39 w.params).In s.heap := XB.keeps B.stays
  have T := TB.keeps B.stays
  refine wpAny_call ?_
  k_dflt walk_at "MINE enter"
  intro h₁ F₁ N₁
  dsimp only
  k_fold
  k_steps
  refine Halt.intro ?_
  have up : ∀ b, h₁.get? b = none → s.heap.get? b = none := fun b e => by
    cases q : s.heap.get? b with
    | none => rfl
    | some o => have := F₁.keep b o q; rw [e] at this; cases this
  refine' lr_spec w (Fr.lst F₁ hl) hi hlen hS hS2 hpos hsum hbig ?sdp ?sun ?sB ?sret ?serr ?sX ?sT
  case sdp => simp only [recursionLimit] at *; omega
  case sun =>
    show un + 3 + 20 < cLine
    omega
  case sB => exact pushX B F₁ rfl rfl
  case sX => exact X.keeps F₁.keep
  case sT => exact T.keeps F₁.keep
  case sret =>
    intro r ys n out tie h' tk' hext hr hg hints hlr htie
    cases tie with
    | true => exact absurd (htie rfl) (by decide)
    | false => exact h1 r ys n out h' tk' (fun b o e => hext b o (F₁.keep b o e)) (up r hr) hg hints hlr
  case serr =>
    intro e t vs out h' tk' hlr _ R U
    refine' caught_SO0 R F₁ B U XB TB D KtsTurn.refl ?sex ?sq ?sk rfl rfl (by decide) ?sp
    case sex => k_dflt k_is
    case sq => kts_isx
    case sp => passes_own
    case sk =>
      intro h' g' news₂ hturn F2 N2 hgot N3 B2 X2 T2 D2
      k_steps
      exact h2 out g' _ _ hlr hturn F2.keep
end Mine
end PartStrict
section PartPL
set_option maxHeartbeats 1000000
namespace Mine
theorem sum_set : ∀ (l : List Int) (i : Nat) (v : Int), i < l.length → (l.set i (l.getD i 0 + v)).sum = l.sum + v
  | [], i, v, h => by simp at h
  | x :: r, 0, v, _ => by simp; omega
  | x :: r, i + 1, v, h => by
    have := sum_set r i v (by simpa using h)
    simp only [List.set_cons_succ, List.sum_cons, List.getD_cons_succ]
    omega
def cnt (c : Int) (ms : List Int) (i : Nat) : Nat := (ms.take i).countP fun x => decide (c ≤ x)
theorem cnt_hit {c : Int} {ms : List Int} {i : Nat} (hi : i < ms.length) (h : c ≤ ms.getD i 0) : cnt c ms (i + 1) = cnt c ms i + 1 := by
  simp only [cnt, List.take_add_one, List.countP_append]
  simp [List.getD_eq_getElem?_getD, List.getElem?_eq_getElem hi] at h ⊢
  exact h
theorem cnt_miss {c : Int} {ms : List Int} {i : Nat} (hi : i < ms.length) (h : ms.getD i 0 < c) : cnt c ms (i + 1) = cnt c ms i := by
  simp only [cnt, List.take_add_one, List.countP_append]
  simp [List.getD_eq_getElem?_getD, List.getElem?_eq_getElem hi] at h ⊢
  exact h
theorem getD_set_eq {l : List Int} {i j : Nat} {v : Int} (hi : i < l.length) : (l.set i v).getD j 0 = if j = i then v else l.getD j 0 := by
  simp only [List.getD_eq_getElem?_getD, List.getElem?_set]
  by_cases e : i = j
  · subst e; simp [hi]
  · rw [if_neg e, if_neg (Ne.symm e)]

structure LInv (S c : Int) (fs ms : List Int) (i : Nat) (st : List Int × Bool) : Prop where
  len : st.1.length = fs.length
  elt : ∀ j, st.1.getD j 0 = fs.getD j 0 ∨ (st.1.getD j 0 = fs.getD j 0 + 1 ∧ c ≤ ms.getD j 0)
  rest : ∀ j, i ≤ j → st.1.getD j 0 = fs.getD j 0
  sum : st.1.sum = fs.sum + min (S - fs.sum) (cnt c ms i)
  tie : st.2 = true ↔ S - fs.sum < (cnt c ms i : Int)
  all : (cnt c ms i : Int) ≤ S - fs.sum → ∀ j, j < i → c ≤ ms.getD j 0 → st.1.getD j 0 = fs.getD j 0 + 1

theorem loop_inv {S c : Int} {fs ms : List Int} (hl : fs.length = ms.length) (hk : fs.sum < S) : ∀ i, i ≤ ms.length → LInv S c fs ms i (lrLoop S c ms (fs, false) i)
  | 0, _ => ⟨rfl, fun j => Or.inl rfl, fun j _ => rfl, by simp only [lrLoop, cnt, List.take_zero, List.countP_nil]; omega, by simp [lrLoop, cnt]; omega, fun _ j h => absurd h (by omega)⟩
  | i + 1, hi => by
    have ih := loop_inv (c := c) hl hk i (by omega)
    rw [lrLoop]
    generalize lrLoop S c ms (fs, false) i = st at ih
    obtain ⟨h1, h2, h3, h4, h5, h6⟩ := ih
    have hi' : i < st.1.length := by omega
    by_cases hc : c ≤ ms.getD i 0
    · have hcn := cnt_hit (c := c) (ms := ms) (i := i) (by omega) hc
      by_cases hs : st.1.sum = S
      · rw [lrStep_a hs (by rw [Int.toNat_natCast]; exact hc)]
        refine ⟨h1, h2, fun j hj => h3 j (by omega), ?_, ?_, ?_⟩
        · show st.1.sum = _; rw [hcn]; omega
        · show true = true ↔ _; rw [hcn]; simp; omega
        · intro hx; rw [hcn] at hx; omega
      · have hs' : st.1.sum < S := by omega
        rw [lrStep_b hs' (by rw [Int.toNat_natCast]; exact hc)]
        simp only [Int.toNat_natCast]
        have hf : st.1.getD i 0 = fs.getD i 0 := h3 i (by omega)
        refine ⟨by simp [h1], ?_, ?_, ?_, ?_, ?_⟩
        · intro j
          simp only [getD_set_eq hi']
          by_cases e : j = i
          · subst e; rw [if_pos rfl, hf]; exact Or.inr ⟨rfl, hc⟩
          · rw [if_neg e]; exact h2 j
        · intro j hj
          simp only [getD_set_eq hi']
          rw [if_neg (by omega)]; exact h3 j (by omega)
        · simp only [sum_set _ _ _ hi', hcn]; omega
        · simp only [hcn]; rw [h5]; omega
        · intro hx j hj hcj
          rw [hcn] at hx
          simp only [getD_set_eq hi']
          by_cases e : j = i
          · subst e; rw [if_pos rfl, hf]
          · rw [if_neg e]; exact h6 (by omega) j (by omega) hcj
    · have hcn := cnt_miss (c := c) (ms := ms) (i := i) (by omega) (by omega)
      rw [lrStep_c (Or.inl (by rw [Int.toNat_natCast]; omega))]
      refine ⟨h1, h2, fun j hj => h3 j (by omega), by rw [hcn]; exact h4, by rw [hcn]; exact h5, ?_⟩
      intro hx j hj hcj
      rw [hcn] at hx
      exact h6 hx j (by rcases Nat.lt_succ_iff_lt_or_eq.mp hj with h | h; exact h; subst h; exact absurd hcj hc) hcj

theorem rems_len (ns : List Int) (S : Int) : (remsOf ns S).length = ns.length := by simp
theorem reps_len (ns : List Int) (S : Int) : (repsOf ns S).length = ns.length := by simp
theorem reps_at {ns : List Int} {S : Int} {i : Nat} (hi : i < ns.length) : (repsOf ns S).getD i 0 = Int.fdiv (ns.getD i 0 * S) ns.sum := by
  simp [List.getD_eq_getElem?_getD, List.getElem?_range hi]
theorem rems_at {ns : List Int} {S : Int} {i : Nat} (hi : i < ns.length) : (remsOf ns S).getD i 0 = Int.fmod (ns.getD i 0 * S) ns.sum := by
  have e : (remsOf ns S).getD i 0 = ns.getD i 0 * S - (repsOf ns S).getD i 0 * ns.sum := by
    simp [List.getD_eq_getElem?_getD, List.getElem?_range hi]
  rw [e, reps_at hi]
  have h := Int.mul_fdiv_add_fmod (ns.getD i 0 * S) ns.sum
  have : ns.sum * Int.fdiv (ns.getD i 0 * S) ns.sum = Int.fdiv (ns.getD i 0 * S) ns.sum * ns.sum := Int.mul_comm ..
  omega
theorem rems_eq (ns : List Int) (S : Int) : remsOf ns S = ns.map fun x => Int.fmod (x * S) ns.sum := by
  apply List.ext_getElem
  · simp
  · intro i h1 h2
    have hi : i < ns.length := by simpa using h1
    have := rems_at (S := S) hi
    simp only [List.getD_eq_getElem?_getD, List.getElem?_eq_getElem h1, List.getElem?_eq_getElem hi, Option.getD_some] at this
    rw [this, List.getElem_map]

theorem sum_fmod {T S : Int} : ∀ l : List Int, (l.map fun x => Int.fmod (x * S) T).sum + (l.map fun x => Int.fdiv (x * S) T).sum * T = l.sum * S
  | [] => by simp
  | x :: r => by
    have ih := sum_fmod (T := T) (S := S) r
    have h := Int.mul_fdiv_add_fmod (x * S) T
    have : T * Int.fdiv (x * S) T = Int.fdiv (x * S) T * T := Int.mul_comm ..
    simp only [List.map_cons, List.sum_cons]
    rw [Int.add_mul, Int.add_mul]
    omega

/-- many small ones: a sum of numbers below T, of which only those at or above 1 count -/
theorem sum_small {T : Int} (hT : 0 < T) : ∀ l : List Int, (∀ x ∈ l, 0 ≤ x ∧ x < T) → l.sum ≤ ((l.countP fun x => decide (0 < x) : Nat) : Int) * (T - 1)
  | [], _ => by simp
  | x :: r, h => by
    have ih := sum_small hT r fun y hy => h y (List.mem_cons_of_mem _ hy)
    have hx := h x List.mem_cons_self
    rw [List.sum_cons]
    by_cases e : 0 < x
    · rw [List.countP_cons_of_pos (by simpa using e)]
      rw [Int.natCast_succ, Int.add_mul]; omega
    · rw [List.countP_cons_of_neg (by simpa using e)]; omega

theorem cut_hi {ss : List Int} {c : Int} {m : Nat} (hs : ss.Pairwise (· ≤ ·)) (hm : m < ss.length) (hc : c = ss.getD m 0) : ss.length - m ≤ ss.countP fun x => decide (c ≤ x) := by
  have e : ss = ss.take m ++ ss.drop m := (List.take_append_drop m ss).symm
  have h2 : (ss.drop m).countP (fun x => decide (c ≤ x)) = (ss.drop m).length := by
    rw [List.countP_eq_length]
    intro x hx
    rw [List.drop_eq_getElem_cons hm] at hx
    have hc' : c = ss[m] := by rw [hc]; simp [List.getD_eq_getElem?_getD, hm]
    have hp : (ss.drop m).Pairwise (· ≤ ·) := hs.sublist (List.drop_sublist ..)
    rw [List.drop_eq_getElem_cons hm, List.pairwise_cons] at hp
    rcases List.mem_cons.mp hx with h | h
    · simp [h, hc']
    · simpa [hc'] using hp.1 x h
  have h3 : ss.countP (fun x => decide (c ≤ x)) = (ss.take m).countP (fun x => decide (c ≤ x)) + (ss.drop m).countP (fun x => decide (c ≤ x)) := by
    rw [← List.countP_append, List.take_append_drop]
  rw [h3, h2, List.length_drop]; omega
theorem cut_lo {ss : List Int} {c : Int} {m : Nat} (hs : ss.Pairwise (· ≤ ·)) (hm : m < ss.length) (hc : c = ss.getD m 0) : (ss.countP fun x => decide (c < x)) ≤ ss.length - m - 1 := by
  have h2 : (ss.take (m + 1)).countP (fun x => decide (c < x)) = 0 := by
    rw [List.countP_eq_zero]
    intro x hx
    have hc' : c = ss[m] := by rw [hc]; simp [List.getD_eq_getElem?_getD, hm]
    have hp : (ss.take (m + 1)).Pairwise (· ≤ ·) := hs.sublist (List.take_sublist ..)
    rw [List.take_succ_eq_append_getElem hm] at hx hp
    rw [List.pairwise_append] at hp
    rcases List.mem_append.mp hx with h | h
    · have := hp.2.2 x h _ (List.mem_singleton.mpr rfl)
      simp; omega
    · rw [List.mem_singleton.mp h]; simp; omega
  have h3 : ss.countP (fun x => decide (c < x)) = (ss.take (m + 1)).countP (fun x => decide (c < x)) + (ss.drop (m + 1)).countP (fun x => decide (c < x)) := by
    rw [← List.countP_append, List.take_append_drop]
  rw [h3, h2]
  have := List.countP_le_length (p := fun x => decide (c < x)) (l := ss.drop (m + 1))
  rw [List.length_drop] at this; omega

structure LrD (ns : List Int) (S : Int) (out : List Int) (tie : Bool) (c : Int) : Prop where
  len : out.length = ns.length
  one : 1 ≤ c
  top : c ≤ ns.sum
  sum : out.sum = S
  elt : ∀ i, i < ns.length → out.getD i 0 = Int.fdiv (ns.getD i 0 * S) ns.sum ∨ (out.getD i 0 = Int.fdiv (ns.getD i 0 * S) ns.sum + 1 ∧ c ≤ Int.fmod (ns.getD i 0 * S) ns.sum)
  all : tie = false → ∀ i, i < ns.length → c ≤ Int.fmod (ns.getD i 0 * S) ns.sum → out.getD i 0 = Int.fdiv (ns.getD i 0 * S) ns.sum + 1
  tied : tie = true → (((remsOf ns S).countP fun x => decide (c < x) : Nat) : Int) < S - (repsOf ns S).sum ∧ S - (repsOf ns S).sum < (((remsOf ns S).countP fun x => decide (c ≤ x) : Nat) : Int)

theorem lr_d {ns out : List Int} {S : Int} {tie : Bool} (h : LrOut ns S out tie) (hT : 0 < ns.sum) : ∃ c, LrD ns S out tie c := by
  have hlo := reps_lo (S := S) hT
  have hhi := reps_hi (S := S) hT
  have hall : ∀ x ∈ remsOf ns S, 0 ≤ x ∧ x < ns.sum := by
    intro x hx
    rw [rems_eq] at hx
    obtain ⟨y, _, rfl⟩ := List.mem_map.mp hx
    exact ⟨Int.fmod_nonneg_of_pos _ hT, Int.fmod_lt_of_pos _ hT⟩
  have hsum : (remsOf ns S).sum = (S - (repsOf ns S).sum) * ns.sum := by
    have := sum_fmod (T := ns.sum) (S := S) ns
    rw [← rems_eq, ← reps_eq] at this
    rw [Int.sub_mul, Int.mul_comm S]; omega
  rcases h with ⟨h1, rfl, rfl⟩ | ⟨h1, c, ⟨ss, hp, hso, hc⟩, hl⟩
  · refine ⟨ns.sum, reps_len .., by omega, by omega, by omega, fun i hi => Or.inl (reps_at hi), fun _ i hi hx => ?_, fun h => nomatch h⟩
    have := Int.fmod_lt_of_pos (ns.getD i 0 * S) hT
    omega
  · have hsl : ss.length = ns.length := by rw [hp.length_eq, rems_len]
    have hk1 : 1 ≤ S - (repsOf ns S).sum := by omega
    obtain ⟨k, hk⟩ : ∃ k : Nat, S - (repsOf ns S).sum = (k : Int) := ⟨(S - (repsOf ns S).sum).toNat, by omega⟩
    have hkn : k ≤ ns.length := by omega
    have hidx : (((repsOf ns S).sum - S) + (ns.length : Int)).toNat = ns.length - k := by omega
    rw [hidx] at hc
    have hm : ns.length - k < ss.length := by omega
    have hge := cut_hi hso hm hc
    have hlt := cut_lo hso hm hc
    rw [hp.countP_eq] at hge hlt
    rw [hsl] at hge hlt
    have hcm : c ∈ remsOf ns S := by
      rw [← hp.mem_iff, hc]
      simp only [List.getD_eq_getElem?_getD, List.getElem?_eq_getElem hm, Option.getD_some]
      exact List.getElem_mem hm
    have hc0 := hall c hcm
    have hc1 : 1 ≤ c := by
      by_cases hz : 1 ≤ c
      · exact hz
      have hz' : c = 0 := by omega
      subst hz'
      have hss := sum_small hT _ hall
      rw [hsum, hk] at hss
      have hle : (((remsOf ns S).countP fun x => decide (0 < x) : Nat) : Int) * (ns.sum - 1) ≤ (k : Int) * (ns.sum - 1) := Int.mul_le_mul_of_nonneg_right (by omega) (by omega)
      rw [Int.mul_sub (k : Int), Int.mul_one] at hle
      omega
    have inv := loop_inv (c := c) (S := S) (fs := repsOf ns S) (ms := remsOf ns S) (by rw [rems_len, reps_len]) (by omega) ns.length (by rw [rems_len]; exact Nat.le_refl _)
    rw [← hl] at inv
    obtain ⟨i1, i2, i3, i4, i5, i6⟩ := inv
    have hcn : cnt c (remsOf ns S) ns.length = (remsOf ns S).countP fun x => decide (c ≤ x) := by
      unfold cnt; rw [List.take_of_length_le (by rw [rems_len]; exact Nat.le_refl _)]
    rw [hcn] at i4 i5 i6
    simp only at i1 i2 i3 i4 i5 i6
    refine ⟨c, by rw [i1, reps_len], hc1, by omega, by omega, ?_, ?_, ?_⟩
    · intro i hi
      have := i2 i
      rw [reps_at hi, rems_at hi] at this
      exact this
    · intro ht i hi hx
      have := i6 (by
        have : ¬ (tie = true) := by rw [ht]; exact fun h => nomatch h
        rw [i5] at this; omega) i hi (by rw [rems_at hi]; exact hx)
      rw [reps_at hi] at this
      exact this
    · intro ht
      exact ⟨by omega, i5.mp ht⟩
end Mine
end PartPL
section PartPlain1
namespace Mine
theorem lr_quota {ns out : List Int} {S : Int} {tie : Bool} (h : LrOut ns S out tie) (hT : 0 < ns.sum) (hS0 : 1 ≤ S) (hp0 : ∀ x ∈ ns, 0 ≤ x) : out.length = ns.length ∧ out.sum = S ∧
    ∀ i : Nat, i < ns.length → (out.getD (i : Int).toNat 0 - 1) * ns.sum < ns.getD (i : Int).toNat 0 * S ∧ ns.getD (i : Int).toNat 0 * S < (out.getD (i : Int).toNat 0 + 1) * ns.sum := by
  obtain ⟨c, d⟩ := lr_d h hT
  refine ⟨d.len, d.sum, fun i hi => ?_⟩
  rw [Int.toNat_natCast]
  have h1 := Int.mul_fdiv_add_fmod (ns.getD i 0 * S) ns.sum
  have h2 := Int.fmod_nonneg_of_pos (ns.getD i 0 * S) hT
  have h3 := Int.fmod_lt_of_pos (ns.getD i 0 * S) hT
  have h4 : ns.sum * Int.fdiv (ns.getD i 0 * S) ns.sum = Int.fdiv (ns.getD i 0 * S) ns.sum * ns.sum := Int.mul_comm ..
  have h5 := d.one
  rw [Int.sub_mul, Int.add_mul, Int.one_mul]
  rcases d.elt i hi with e | ⟨e, hc⟩ <;> rw [e]
  · omega
  · rw [Int.add_mul, Int.one_mul]; omega
theorem lr_order {ns out : List Int} {S : Int} (h : LrOut ns S out false) (hT : 0 < ns.sum) (hS0 : 1 ≤ S) (hp0 : ∀ x ∈ ns, 0 ≤ x) : ∀ i j : Nat, i < ns.length → j < ns.length →
    ¬ (Int.fdiv (ns.getD (i : Int).toNat 0 * S) ns.sum < out.getD (i : Int).toNat 0 ∧ out.getD (j : Int).toNat 0 = Int.fdiv (ns.getD (j : Int).toNat 0 * S) ns.sum ∧ Int.fmod (ns.getD (i : Int).toNat 0 * S) ns.sum ≤ Int.fmod (ns.getD (j : Int).toNat 0 * S) ns.sum) := by
  obtain ⟨c, d⟩ := lr_d h hT
  intro i j hi hj
  rw [Int.toNat_natCast, Int.toNat_natCast]
  rintro ⟨a1, a2, a3⟩
  rcases d.elt i hi with e | ⟨e, hc⟩
  · omega
  · have := d.all rfl j hj (by omega)
    omega
end Mine
end PartPlain1
section PartPlain2
set_option maxHeartbeats 1000000
namespace Mine
/-- the cost of one seat count, against the votes -/
def cst (T S x v : Int) : Int := (x * T - v * S) * (x * T - v * S)
theorem elem_strict {T S v c x o : Int} (hc1 : 1 ≤ c) (hcT : c ≤ T) (ho : (o = Int.fdiv (v * S) T ∧ Int.fmod (v * S) T < c) ∨ (o = Int.fdiv (v * S) T + 1 ∧ c ≤ Int.fmod (v * S) T)) :
    cst T S o v - T * (T - 2 * c + 1) * o ≤ cst T S x v - T * (T - 2 * c + 1) * x ∧ (cst T S o v - T * (T - 2 * c + 1) * o = cst T S x v - T * (T - 2 * c + 1) * x → x = o) := by
  have hT : 0 < T := by omega
  have h1 := Int.mul_fdiv_add_fmod (v * S) T
  have h2 := Int.fmod_nonneg_of_pos (v * S) hT
  have h3 := Int.fmod_lt_of_pos (v * S) hT
  generalize Int.fdiv (v * S) T = f at *
  generalize Int.fmod (v * S) T = r at *
  -- the difference, factored
  have key : (cst T S x v - T * (T - 2 * c + 1) * x) - (cst T S o v - T * (T - 2 * c + 1) * o) = T * ((x - o) * ((x + o - 2 * f - 1) * T + 2 * (c - r) - 1)) := by
    unfold cst
    rw [← h1]
    grind
  have pos : 0 ≤ (x - o) * ((x + o - 2 * f - 1) * T + 2 * (c - r) - 1) ∧ ((x - o) * ((x + o - 2 * f - 1) * T + 2 * (c - r) - 1) = 0 → x = o) := by
    by_cases hxo : x = o
    · subst hxo; simp
    · have big : 0 < (x - o) * ((x + o - 2 * f - 1) * T + 2 * (c - r) - 1) := by
        rcases Int.lt_or_gt_of_ne hxo with hlt | hgt
        · -- x < o : both factors are negative
          refine Int.mul_pos_of_neg_of_neg (by omega) ?_
          rcases ho with ⟨rfl, hr⟩ | ⟨rfl, hr⟩
          · have : (x + o - 2 * o - 1) * T ≤ -2 * T := Int.mul_le_mul_of_nonneg_right (by omega) (by omega)
            omega
          · have : (x + (f + 1) - 2 * f - 1) * T ≤ 0 * T := Int.mul_le_mul_of_nonneg_right (by omega) (by omega)
            omega
        · refine Int.mul_pos (by omega) ?_
          rcases ho with ⟨rfl, hr⟩ | ⟨rfl, hr⟩
          · have : 0 * T ≤ (x + o - 2 * o - 1) * T := Int.mul_le_mul_of_nonneg_right (by omega) (by omega)
            omega
          · have : 2 * T ≤ (x + (f + 1) - 2 * f - 1) * T := Int.mul_le_mul_of_nonneg_right (by omega) (by omega)
            omega
      exact ⟨by omega, fun e => by omega⟩
  have hk := Int.mul_nonneg (Int.le_of_lt hT) pos.1
  refine ⟨by omega, fun e => pos.2 ?_⟩
  have : T * ((x - o) * ((x + o - 2 * f - 1) * T + 2 * (c - r) - 1)) = 0 := by omega
  rcases Int.mul_eq_zero.mp this with h | h
  · omega
  · exact h
theorem elem_weak {T S v c x o : Int} (hc0 : 0 ≤ c) (hcT : c ≤ T) (hT : 0 < T) (ho : (o = Int.fdiv (v * S) T ∧ Int.fmod (v * S) T ≤ c) ∨ (o = Int.fdiv (v * S) T + 1 ∧ c ≤ Int.fmod (v * S) T)) :
    cst T S o v - T * (T - 2 * c) * o ≤ cst T S x v - T * (T - 2 * c) * x := by
  have h1 := Int.mul_fdiv_add_fmod (v * S) T
  have h2 := Int.fmod_nonneg_of_pos (v * S) hT
  have h3 := Int.fmod_lt_of_pos (v * S) hT
  generalize Int.fdiv (v * S) T = f at *
  generalize Int.fmod (v * S) T = r at *
  have key : (cst T S x v - T * (T - 2 * c) * x) - (cst T S o v - T * (T - 2 * c) * o) = T * ((x - o) * ((x + o - 2 * f - 1) * T + 2 * (c - r))) := by
    unfold cst
    rw [← h1]
    grind
  have pos : 0 ≤ (x - o) * ((x + o - 2 * f - 1) * T + 2 * (c - r)) := by
    by_cases hxo : x = o
    · subst hxo; simp
    · rcases Int.lt_or_gt_of_ne hxo with hlt | hgt
      · refine Int.mul_nonneg_of_nonpos_of_nonpos (by omega) ?_
        rcases ho with ⟨rfl, hr⟩ | ⟨rfl, hr⟩
        · have : (x + o - 2 * o - 1) * T ≤ -2 * T := Int.mul_le_mul_of_nonneg_right (by omega) (by omega)
          omega
        · have : (x + (f + 1) - 2 * f - 1) * T ≤ 0 * T := Int.mul_le_mul_of_nonneg_right (by omega) (by omega)
          omega
      · refine Int.mul_nonneg (by omega) ?_
        rcases ho with ⟨rfl, hr⟩ | ⟨rfl, hr⟩
        · have : 0 * T ≤ (x + o - 2 * o - 1) * T := Int.mul_le_mul_of_nonneg_right (by omega) (by omega)
          omega
        · have : 2 * T ≤ (x + (f + 1) - 2 * f - 1) * T := Int.mul_le_mul_of_nonneg_right (by omega) (by omega)
          omega
  have hk := Int.mul_nonneg (Int.le_of_lt hT) pos
  omega

/-- the cost of a row, list by list -/
def csum (T S : Int) : List Int → List Int → Int
  | x :: xs, v :: vs => cst T S x v + csum T S xs vs
  | _, _ => 0
/-- an element's law, list by list -/
def All2 (R : Int → Int → Prop) : List Int → List Int → Prop
  | [], [] => True
  | o :: os, v :: vs => R o v ∧ All2 R os vs
  | _, _ => False
theorem All2.len {R : Int → Int → Prop} : ∀ {os vs : List Int}, All2 R os vs → os.length = vs.length
  | [], [], _ => rfl
  | _ :: _, _ :: _, h => by simp [All2.len h.2]
  | [], _ :: _, h => h.elim
  | _ :: _, [], h => h.elim
theorem All2.of_get {R : Int → Int → Prop} : ∀ {os vs : List Int}, os.length = vs.length → (∀ i, i < vs.length → R (os.getD i 0) (vs.getD i 0)) → All2 R os vs
  | [], [], _, _ => trivial
  | o :: os, v :: vs, hl, h => ⟨h 0 (by simp), All2.of_get (by simpa using hl) fun i hi => by simpa using h (i + 1) (by simpa using hi)⟩
  | [], _ :: _, hl, _ => by simp at hl
  | _ :: _, [], hl, _ => by simp at hl

theorem rows_strict {T S c : Int} (hc1 : 1 ≤ c) (hcT : c ≤ T) : ∀ {os xs vs : List Int}, All2 (fun o v => (o = Int.fdiv (v * S) T ∧ Int.fmod (v * S) T < c) ∨ (o = Int.fdiv (v * S) T + 1 ∧ c ≤ Int.fmod (v * S) T)) os vs → xs.length = vs.length →
    csum T S os vs - T * (T - 2 * c + 1) * os.sum ≤ csum T S xs vs - T * (T - 2 * c + 1) * xs.sum ∧ (csum T S os vs - T * (T - 2 * c + 1) * os.sum = csum T S xs vs - T * (T - 2 * c + 1) * xs.sum → xs = os)
  | [], [], [], _, _ => ⟨Int.le_refl _, fun _ => rfl⟩
  | o :: os, x :: xs, v :: vs, h, hl => by
    have ih := rows_strict hc1 hcT h.2 (xs := xs) (by simpa using hl)
    have he := elem_strict (x := x) hc1 hcT h.1
    simp only [csum, List.sum_cons]
    have d1 : T * (T - 2 * c + 1) * (o + os.sum) = T * (T - 2 * c + 1) * o + T * (T - 2 * c + 1) * os.sum := Int.mul_add ..
    have d2 : T * (T - 2 * c + 1) * (x + xs.sum) = T * (T - 2 * c + 1) * x + T * (T - 2 * c + 1) * xs.sum := Int.mul_add ..
    rw [d1, d2]
    generalize T * (T - 2 * c + 1) * o = a1 at *
    generalize T * (T - 2 * c + 1) * os.sum = a2 at *
    generalize T * (T - 2 * c + 1) * x = a3 at *
    generalize T * (T - 2 * c + 1) * xs.sum = a4 at *
    refine ⟨by omega, fun e => ?_⟩
    rw [he.2 (by omega), ih.2 (by omega)]
  | _ :: _, _, [], h, _ => h.elim
  | [], _, _ :: _, h, _ => h.elim
  | [], _ :: _, [], _, hl => by simp at hl
  | _ :: _, [], _ :: _, _, hl => by simp at hl

theorem rows_weak {T S c : Int} (hc0 : 0 ≤ c) (hcT : c ≤ T) (hT : 0 < T) : ∀ {os xs vs : List Int}, All2 (fun o v => (o = Int.fdiv (v * S) T ∧ Int.fmod (v * S) T ≤ c) ∨ (o = Int.fdiv (v * S) T + 1 ∧ c ≤ Int.fmod (v * S) T)) os vs → xs.length = vs.length →
    csum T S os vs - T * (T - 2 * c) * os.sum ≤ csum T S xs vs - T * (T - 2 * c) * xs.sum
  | [], [], [], _, _ => Int.le_refl _
  | o :: os, x :: xs, v :: vs, h, hl => by
    have ih := rows_weak hc0 hcT hT h.2 (xs := xs) (by simpa using hl)
    have he := elem_weak (x := x) hc0 hcT hT h.1
    simp only [csum, List.sum_cons]
    have d1 : T * (T - 2 * c) * (o + os.sum) = T * (T - 2 * c) * o + T * (T - 2 * c) * os.sum := Int.mul_add ..
    have d2 : T * (T - 2 * c) * (x + xs.sum) = T * (T - 2 * c) * x + T * (T - 2 * c) * xs.sum := Int.mul_add ..
    rw [d1, d2]
    generalize T * (T - 2 * c) * o = a1 at *
    generalize T * (T - 2 * c) * os.sum = a2 at *
    generalize T * (T - 2 * c) * x = a3 at *
    generalize T * (T - 2 * c) * xs.sum = a4 at *
    omega
  | _ :: _, _, [], h, _ => h.elim
  | [], _, _ :: _, h, _ => h.elim
  | [], _ :: _, [], _, hl => by simp at hl
  | _ :: _, [], _ :: _, _, hl => by simp at hl

/-- the fair choices: over the cut one more, under it none, at it either -/
def Fair (T S c : Int) (o v : Int) : Prop := (o = Int.fdiv (v * S) T ∧ Int.fmod (v * S) T ≤ c) ∨ (o = Int.fdiv (v * S) T + 1 ∧ c ≤ Int.fmod (v * S) T)
theorem pick1 {T S c : Int} : ∀ (vs : List Int) (K : Nat), (vs.countP fun v => decide (c < Int.fmod (v * S) T)) ≤ K → K ≤ (vs.countP fun v => decide (c ≤ Int.fmod (v * S) T)) →
    ∃ os, All2 (Fair T S c) os vs ∧ os.sum = (vs.map fun v => Int.fdiv (v * S) T).sum + K
  | [], K, h1, h2 => ⟨[], trivial, by simp at h2; simp [h2]⟩
  | v :: vs, K, h1, h2 => by
    rcases Int.lt_trichotomy (Int.fmod (v * S) T) c with h | h | h
    · rw [List.countP_cons_of_neg (by simp; omega)] at h1
      rw [List.countP_cons_of_neg (by simp; omega)] at h2
      obtain ⟨os, a, b⟩ := pick1 vs K h1 h2
      exact ⟨Int.fdiv (v * S) T :: os, ⟨Or.inl ⟨rfl, by omega⟩, a⟩, by simp [b]; omega⟩
    · rw [List.countP_cons_of_neg (by simp; omega)] at h1
      rw [List.countP_cons_of_pos (by simp; omega)] at h2
      by_cases hK : K ≤ (vs.countP fun v => decide (c ≤ Int.fmod (v * S) T))
      · obtain ⟨os, a, b⟩ := pick1 vs K h1 hK
        exact ⟨Int.fdiv (v * S) T :: os, ⟨Or.inl ⟨rfl, by omega⟩, a⟩, by simp [b]; omega⟩
      · have hle : (vs.countP fun v => decide (c < Int.fmod (v * S) T)) ≤ (vs.countP fun v => decide (c ≤ Int.fmod (v * S) T)) := List.countP_mono_left fun x _ hx => by simp at hx ⊢; omega
        obtain ⟨os, a, b⟩ := pick1 (S := S) (T := T) (c := c) vs (K - 1) (by omega) (by omega)
        exact ⟨(Int.fdiv (v * S) T + 1) :: os, ⟨Or.inr ⟨rfl, by omega⟩, a⟩, by simp [b]; omega⟩
    · rw [List.countP_cons_of_pos (by simp; omega)] at h1
      rw [List.countP_cons_of_pos (by simp; omega)] at h2
      obtain ⟨os, a, b⟩ := pick1 (S := S) (T := T) (c := c) vs (K - 1) (by omega) (by omega)
      exact ⟨(Int.fdiv (v * S) T + 1) :: os, ⟨Or.inr ⟨rfl, by omega⟩, a⟩, by simp [b]; omega⟩
theorem pick2 {T S c : Int} : ∀ (vs : List Int) (K : Nat), (vs.countP fun v => decide (c < Int.fmod (v * S) T)) < K → K < (vs.countP fun v => decide (c ≤ Int.fmod (v * S) T)) →
    ∃ os os', All2 (Fair T S c) os vs ∧ os.sum = (vs.map fun v => Int.fdiv (v * S) T).sum + K ∧ All2 (Fair T S c) os' vs ∧ os'.sum = (vs.map fun v => Int.fdiv (v * S) T).sum + K ∧ os ≠ os'
  | [], K, h1, h2 => by simp at h2
  | v :: vs, K, h1, h2 => by
    rcases Int.lt_trichotomy (Int.fmod (v * S) T) c with h | h | h
    · rw [List.countP_cons_of_neg (by simp; omega)] at h1
      rw [List.countP_cons_of_neg (by simp; omega)] at h2
      obtain ⟨os, os', a, b, a', b', n⟩ := pick2 vs K h1 h2
      exact ⟨Int.fdiv (v * S) T :: os, Int.fdiv (v * S) T :: os', ⟨Or.inl ⟨rfl, by omega⟩, a⟩, by simp [b]; omega, ⟨Or.inl ⟨rfl, by omega⟩, a'⟩, by simp [b']; omega, fun e => n (List.cons.inj e).2⟩
    · rw [List.countP_cons_of_neg (by simp; omega)] at h1
      rw [List.countP_cons_of_pos (by simp; omega)] at h2
      obtain ⟨os, a, b⟩ := pick1 (S := S) (T := T) (c := c) vs K (by omega) (by omega)
      obtain ⟨os', a', b'⟩ := pick1 (S := S) (T := T) (c := c) vs (K - 1) (by omega) (by omega)
      exact ⟨Int.fdiv (v * S) T :: os, (Int.fdiv (v * S) T + 1) :: os', ⟨Or.inl ⟨rfl, by omega⟩, a⟩, by simp [b]; omega, ⟨Or.inr ⟨rfl, by omega⟩, a'⟩, by simp [b']; omega, fun e => by have := (List.cons.inj e).1; omega⟩
    · rw [List.countP_cons_of_pos (by simp; omega)] at h1
      rw [List.countP_cons_of_pos (by simp; omega)] at h2
      obtain ⟨os, os', a, b, a', b', n⟩ := pick2 (S := S) (T := T) (c := c) vs (K - 1) (by omega) (by omega)
      exact ⟨(Int.fdiv (v * S) T + 1) :: os, (Int.fdiv (v * S) T + 1) :: os', ⟨Or.inr ⟨rfl, by omega⟩, a⟩, by simp [b]; omega, ⟨Or.inr ⟨rfl, by omega⟩, a'⟩, by simp [b']; omega, fun e => n (List.cons.inj e).2⟩
end Mine
end PartPlain2
section PartTurn
open PySem PySem.W PySem.Calls PyProof.Rows PySem.Spec
set_option maxRecDepth 100000
namespace Mine
section
variable {A₀ : Around} {base g h g₂ h' : Heap} {outs : List Env} {L : Addr} {m : Str → Option Value} {env : Env}
theorem dicts_push (F : Fr g L h m) (hf : env.frame = some L) (D : KtsDicts (outs.filterMap (·.frame)) g) : KtsDicts ((env :: outs).filterMap (·.frame)) h := fun b hb => by
  rcases frames_mem hf hb with rfl | hb
  · obtain ⟨o, es, ep, ho, hd, _⟩ := F.ns
    exact ⟨o, es, ep, ho, hd⟩
  · obtain ⟨o, es, n, ho, hd⟩ := D b hb
    exact ⟨o, es, n, F.keep _ _ ho, hd⟩
/-- a callee whose raise was caught below turned the frames' slots: the ground anew -/
theorem turn_frame (B : Below A₀ base outs g) (F : Fr g L h m) (hf : env.frame = some L) (D : KtsDicts (outs.filterMap (·.frame)) g) (T : KtsTurn ((env :: outs).filterMap (·.frame)) h g₂) (hx : Ext g₂ h') :
    ∃ g', KtsTurn (outs.filterMap (·.frame)) g g' ∧ Fr g' L h' m ∧ base.StaysIn g' := by
  have nL : g.get? L = none := kts_self F
  obtain ⟨T₁, S₁⟩ := kts_turn_at (h := h') (fs := outs.filterMap (·.frame)) (g := g)
    (fun b hb => by obtain ⟨o, _, _, ho, _⟩ := D b hb; exact ⟨o, ho⟩)
    (fun b o e nm => hx _ _ (T.other b o (F.keep b o e) fun q => by
      rcases frames_mem hf q with z | z
      · rw [z, nL] at e; cases e
      · exact nm z))
    (fun b o e _ => by
      obtain ⟨sl, hs⟩ := T.up (F.keep b o e)
      exact ⟨sl, hx _ _ hs⟩)
  refine ⟨_, T₁, ⟨?_, S₁, by rw [T₁.size]; exact F.above⟩, fun b o e => T₁.other b o (B.stays b o e) fun hm => ?_⟩
  · obtain ⟨o, es, ep, ho, hd, hk, hfnd⟩ := F.ns
    obtain ⟨sl, hs⟩ := T.up ho
    exact ⟨_, es, ep, hx _ _ hs, hd, hk, hfnd⟩
  · rw [(B.frames.mem hm).1] at e; cases e
end
end Mine
end PartTurn
section PartGR
open PySem PySem.W PySem.Calls PyProof.Rows
set_option maxRecDepth 100000
set_option maxHeartbeats 8000000
namespace Mine
local macro_rules | `(tactic| walk_at "MINE enterC") => `(tactic| (refine' code_pureC ?k3 ?k5 ?k6 ?k7 ?k8 ?k9 ?kB ?kD ?_ ?c2 ?c3 ?c4; (case k3 => k_asm); (case k5 => k_asm); (case k6 => k_is); (case k7 => k_is); (case k8 => ktr_room); (case k9 => first | exact BindsTo.of_eq rfl | exact binds_K (by k_in) rfl (by k_is) rfl rfl rfl); (case kB => exact rfl); (case kD => decide +kernel); (case c2 => exact rfl); (case c3 => exact rfl); (case c4 => exact rfl); k_whole))
local macro_rules | `(tactic| walk_at "CompSrc") => `(tactic| (refine Halt.go ?_))
local macro_rules | `(tactic| walk_at "CompEnd") => `(tactic| (refine Halt.go ?_))
local macro_rules | `(tactic| walk_at "UnrEnd") => `(tactic| (refine Halt.go ?_))
local macro_rules | `(tactic| walk_at "pyIter ref") => `(tactic| (refine Halt.go ?_))
local macro_rules | `(tactic| walk_at "call type:range") => `(tactic| (k_here; (rename Fr _ _ _ _ => F9); (rename News _ _ _ _ => N9); (with_unfolding_all refine range1_rows F9 N9 ?_); clear F9 N9; intro h' tk' t1' u1' v1' R' F' N' X'; clear X'))
local macro_rules | `(tactic| walk_at "MINE list") => `(tactic| first | with_reducible assumption | exact Fr.lst (by with_reducible assumption) (by with_reducible assumption) | exact News.isList (by with_reducible assumption) (by k_mem))
local macro_rules | `(tactic| walk_at "MINE ext") => `(tactic| ((rename Ext _ _ => hX9); (rename Fr _ _ _ _ => F9); (rename News _ _ _ _ => N9); (have F8 := Fr.keeps F9 hX9); (have N8 := News.grown N9 hX9); clear hX9; (try k_sweep)))
local macro_rules | `(tactic| walk_at "call ref") => `(tactic| (refine Halt.go ?_))
local macro_rules | `(tactic| walk_at "call ref") => `(tactic| (k_here; k_dflt (refine' cell_spec _ ?cl ?ci ?ca ?cb ?cc ?cd ?ce ?_ ?cX ?cT; (case cl => walk_at "MINE list"); (case ci => with_reducible assumption); (case ca => assumption); (case cb => omega); (case cc => omega); (case cd => ktr_room); (case ce => ktr_units); (case cX => k_in); (case cT => exact Top.keeps (by with_reducible assumption) (Fr.keep (by with_reducible assumption))); k_whole); intro c' t' h' tk' hc' hX'; walk_at "MINE ext"; (try dsimp only); (try k_fold)))

local macro_rules | `(tactic| walk_at "subscriptTail Name Name ref int") => `(tactic| (k_here; (refine' item_anyK ?k1 ?k2 ?k3 ?k4 ?k5 ?_ ?k6; (case k1 => walk_at "MINE list"); (case k2 => with_reducible assumption); (case k3 => omega); (case k4 => omega); (case k5 => omega); (case k6 => with_unfolding_all rfl); k_whole; intro _)))
local macro_rules | `(tactic| walk_at "eval Name") => `(tactic| (k_here; k_dflt (refine' nameX_L ?F ?v ?_ ?a ?b; (case F => k_asm); (case a => rfl); (case b => rfl); (case v => first | exact rfl | assumption); k_whole)))
local macro_rules | `(tactic| walk_at "binaryOp FloorDiv int int") => `(tactic| (refine floordiv_int (by omega) ?_ (Or.inl (noPy (by omega) (by omega)))))
local macro_rules | `(tactic| walk_at "binaryOp Mod int int") => `(tactic| (refine mod_int' (by omega) ?_))

theorem news_add {h₀ h h' : Heap} {L r : Addr} {m : Str → Option Value} {news : List (Addr × Obj)} {o : Obj} (F : Fr h₀ L h m) (N : News h₀ L h news) (hx : Ext h h') (hr : h.get? r = none) (hg : h'.get? r = some o) : News h₀ L h' ((r, o) :: news) := fun p hp => by
  rcases List.mem_cons.mp hp with rfl | hp
  · refine ⟨hg, fun e => ?_, ?_⟩
    · obtain ⟨oL, _, _, hL, _⟩ := F.ns
      have e' : r = L := e
      rw [e', hL] at hr; cases hr
    · cases q : h₀.get? r with
      | none => rfl
      | some o' => have := F.keep r o' q; rw [hr] at this; cases this
  · exact ⟨hx _ _ (N p hp).1, (N p hp).2⟩
theorem sum_lo {a : Int} : ∀ {l : List Int}, (∀ x ∈ l, a ≤ x) → a * l.length ≤ l.sum
  | [], _ => by simp
  | x :: r, h => by
    have ih := sum_lo fun y hy => h y (List.mem_cons_of_mem _ hy)
    have := h x List.mem_cons_self
    rw [List.sum_cons, List.length_cons, Int.natCast_succ, Int.mul_add, Int.mul_one]; omega
theorem sum_hi {a : Int} : ∀ {l : List Int}, (∀ x ∈ l, x ≤ a) → l.sum ≤ a * l.length
  | [], _ => by simp
  | x :: r, h => by
    have ih := sum_hi fun y hy => h y (List.mem_cons_of_mem _ hy)
    have := h x List.mem_cons_self
    rw [List.sum_cons, List.length_cons, Int.natCast_succ, Int.mul_add, Int.mul_one]; omega

theorem gr_spec (w : World) {mean : ExcName → Option Value} {mg mb : Str → Option Value} {dp un : Nat} {gd : Option (List Code)} {outs : List Env} {s : Shared} {Q E : Value → Shared → Prop} {l : Addr} {vs : List Value} {ns : List Int}
    (hl : s.heap.IsList l vs.toArray) (hi : IntsAre vs ns) (hlen : ns.length ≤ 100) (hdp : dp + 5 < recursionLimit) (hun : un + 60 < cLine) {base : Heap}
    (B : Below (ar dp un gd outs) base outs s.heap) (D : KtsDicts (outs.filterMap (·.frame)) s.heap)
    (h : ∀ g' h' tk', KtsTurn (outs.filterMap (·.frame)) s.heap g' → Ext g' h' → Q (.bool true) { s with heap := h', toks := tk' }) :
    (hd.heap_39 w.params).In base → Top hd.view_39 (looseW hd.view_39 [Str.ofString "largest_remainder"]) mean mg mb base → wpAny (model PySem.Challenge.rw_ab5001_01.prog w) (ar dp un gd outs) (call (.ref 69) [.ref l]) Q E s := by
  w_on
  k_fill
  intro XB TB
  have X : (hd.heap_39 w.params).In s.heap := XB.keeps B.stays
  have T := TB.keeps B.stays
  refine wpAny_call ?_
  k_dflt walk_at "MINE enterC"
  intro h₁ tk₁ cells F₁ N₁ Y
  obtain ⟨oS, rfl, d1⟩ := CellsAre.one Y
  clear Y
  replace d1 : oS.data = .cell (some (.ref l)) := d1
  dsimp only
  k_unmd
  k_fold
  k_steps
  refine Halt.intro ?_
  rename_i c0 t0 h2 tk2 hc0 h3 h4 tk4 t1 u1 v1 R4 F4 N4
  have hf1 := Int.fmod_nonneg_of_pos c0 (show (0 : Int) < 6 by decide)
  have hf2 := Int.fmod_lt_of_pos c0 (show (0 : Int) < 6 by decide)
  obtain ⟨P, hPe⟩ : ∃ P, P = 3 + c0.fmod 6 := ⟨_, rfl⟩
  have hP1 : 3 ≤ P := by omega
  have hP2 : P ≤ 8 := by omega
  rw [← hPe] at R4 F4 ⊢
  clear hf1 hf2 hPe
  refine LCg.CompSrc.range (n := P.toNat) rfl F4 N4 R4 (small_one (by omega) (by omega) (by omega) (by omega)) (by rw [rangeSize_nat]; omega) (by rw [sizeLine_eq]; omega) ?_
  intro g
  refine rest_tail (fun i ys TL => TL = [] ∧ ∃ out, IntsAre ys out ∧ out.length = i ∧ ∀ x ∈ out, 1 ≤ x ∧ x ≤ 10 ^ 9) ⟨rfl, [], .nil, rfl, fun x hx => nomatch hx⟩ ?_ ?_
  · clear F4 N4 R4
    rintro i v ys TL I oI C oC Dd m₂ h' tk' E' hin ⟨tv, hv⟩ ⟨rfl, out, ho, hol, hob⟩ hC hx F N off ne
    rw [Int.zero_add] at hv
    subst hv
    simp only [List.append_nil] at N
    k_steps
    rename Fr _ _ _ _ => F3
    rename News _ _ _ _ => N3
    refine Halt.intro ?_
    refine end_none F3 (by exact N3) off trivial ⟨[], rfl, rfl, out ++ [_], IntsAre.append ho (.cons _ _ .nil), by simp [hol], fun x hx => ?_⟩
    rcases List.mem_append.mp hx with hx | hx
    · exact hob x hx
    · rw [List.mem_singleton.mp hx]
      refine ⟨Int.le_add_of_nonneg_right (Int.fmod_nonneg_of_pos _ (by decide)), ?_⟩
      rw [Int.add_comm]
      exact Int.add_one_le_of_lt (Int.fmod_lt_of_pos _ (by decide))
  · clear F4 N4 R4
    rintro ys TL ⟨rfl, V, hV, hVl, hVb⟩ Dv h' tk' F N o1
    dsimp only
    simp only [List.cons_append, List.nil_append, LCg.Off1, and_true] at o1 N
    k_steps
    refine Halt.intro ?_
    rename_i c1 t5 h5 tk5 hc5 h6 D5 n5 h7 F5 N5 l5
    have hf1 := Int.fmod_nonneg_of_pos (c1.fdiv 6) (show (0 : Int) < 50 by decide)
    have hf2 := Int.fmod_lt_of_pos (c1.fdiv 6) (show (0 : Int) < 50 by decide)
    obtain ⟨S, hSe⟩ : ∃ S, S = 1 + (c1.fdiv 6).fmod 50 := ⟨_, rfl⟩
    have hS1 : 1 ≤ S := by omega
    have hS2 : S < 100 := by omega
    rw [← hSe] at F5 ⊢
    clear hf1 hf2 hSe
    have hVlo := sum_lo (a := 1) fun x hx => (hVb x hx).1
    have hVhi := sum_hi (a := 10 ^ 9) fun x hx => (hVb x hx).2
    have hV8 : V.length ≤ 8 := by omega
    have hVs : 0 < V.sum := by omega
    have hVs2 : V.sum < 2 ^ 60 := by omega
    have hVp : ∀ x ∈ V, 0 ≤ x := fun x hx => by have := (hVb x hx).1; omega
    refine' lr_spec2 w (News.isList N5 (by k_mem)) hV hV8 hS1 hS2 hVp hVs hVs2 ?gdp ?gun ?gB ?_ ?gX ?gT
    case gdp => simp only [recursionLimit] at *; omega
    case gun => show un + 3 + 20 < cLine; omega
    case gB => exact pushX B F5 rfl rfl
    case gX => exact X.keeps F5.keep
    case gT => exact T.keeps F5.keep
    intro r6 ys6 n6 out6 tie6 h8 tk8 hext hr hg hints hlr
    have F6 := F5.keeps hext
    have N6 := news_add F5 N5 hext hr hg
    clear hext hr hg F5 N5
    obtain ⟨q1, q2, q3⟩ := lr_quota hlr hVs hS1 hVp
    dsimp only
    k_unmd
    k_fold
    k_steps
    refine Halt.intro ?_
    have lV : h8.IsList Dv ys.toArray := News.isList N6 (by k_mem)
    have hlb : h8.IsList r6 ys6.toArray := News.isList N6 (by k_mem)
    refine' iq_spec w lV hV hlb hints (by omega) q1 q2 (by omega) hS2 (by omega) hVs2 q3 ?idp ?iun ?_ ?iX ?iT
    case idp => simp only [recursionLimit] at *; omega
    case iun => show un + 3 + 20 < cLine; omega
    case iX => exact X.keeps F6.keep
    case iT => exact T.keeps F6.keep
    intro h9 tk9 hext
    have F7 := F6.keeps hext
    have N7 := News.grown N6 hext
    clear hext F6 N6 lV hlb
    dsimp only
    k_unmd
    k_fold
    k_steps
    refine Halt.intro ?_
    rename_i Da na ha Fa Na la
    have lV : ha.IsList Da ys.toArray := News.isList Na (by k_mem)
    refine' strict_spec w lV hV hV8 hS1 hS2 hVp hVs hVs2 ?sdp ?sun ?sB ?sD ?s1 ?s2 XB TB
    case sdp => simp only [recursionLimit] at *; omega
    case sun => show un + 3 + 30 < cLine; omega
    case sB => exact pushX B Fa rfl rfl
    case sD => exact dicts_push Fa rfl D
    case s2 =>
      intro outt gg hb tkb hlrt hturn hext
      obtain ⟨g', T', F', ST⟩ := turn_frame B Fa rfl D hturn hext
      clear Fa Na lV
      have X2 := XB.keeps ST
      have T2 := TB.keeps ST
      have Nn : News g' s.heap.objs.size hb [] := News.nil
      dsimp only
      k_unmd
      k_fold
      k_steps
      rename Fr _ _ _ _ => Fz
      exact h _ _ _ T' Fz.keep
    case s1 =>
      intro rb ysb nb outb hb tkb hext hr hg hib hlrb
      have Fb := Fa.keeps hext
      have Nb := news_add Fa Na hext hr hg
      clear hext hr hg Fa Na lV
      dsimp only
      k_unmd
      k_fold
      k_steps
      refine Halt.intro ?_
      rename IsRange _ _ _ _ _ _ _ _ => R9
      rename Fr _ _ _ _ => F9
      rename News _ _ _ _ => N9
      have hsmall : Builtin.Range.small 0 P 1 = true := small_one (by omega) (by omega) (by omega) (by omega)
      have hlrV := lr_order hlrb hVs hS1 hVp
      obtain ⟨b1, b2, b3⟩ := lr_quota hlrb hVs hS1 hVp
      have hPn : P = ((P.toNat : Nat) : Int) := by omega
      refine range_gen (n := P.toNat) (fun i m news => m (Str.ofString "told") = some (.ref rb) ∧ m (Str.ofString "votes") = some (.ref Dv) ∧ (∃ tt, m (Str.ofString "seats") = some (.int S tt)) ∧ (∃ tt, m (Str.ofString "total") = some (.int V.sum tt)) ∧ (∃ tt, m (Str.ofString "parties") = some (.int P tt)) ∧ news = _)
        rfl R9 hsmall (by rw [rangeSize_nat]; omega) F9 N9 ⟨rfl, rfl, ⟨_, rfl⟩, ⟨_, rfl⟩, ⟨_, rfl⟩, rfl⟩ ?_ ?_
      · clear R9 F9 N9 hsmall
        rintro I i m₁ news₁ ti hx tkx hI hin ⟨hm1, hm2, ⟨tt3, hm3⟩, ⟨tt4, hm4⟩, ⟨tt5, hm5⟩, rfl⟩ F N
        simp only [Int.zero_add] at F
        k_steps
        refine Halt.intro ?_
        rename IsRange _ _ _ _ _ _ _ _ => R9
        rename Fr _ _ _ _ => F9
        rename News _ _ _ _ => N9
        have hsmall : Builtin.Range.small 0 P 1 = true := small_one (by omega) (by omega) (by omega) (by omega)
        refine range_gen (n := P.toNat) (fun j m news => m (Str.ofString "told") = some (.ref rb) ∧ m (Str.ofString "votes") = some (.ref Dv) ∧ (∃ tt, m (Str.ofString "seats") = some (.int S tt)) ∧ (∃ tt, m (Str.ofString "total") = some (.int V.sum tt)) ∧ (∃ tt, m (Str.ofString "parties") = some (.int P tt)) ∧ (∃ tt, m (Str.ofString "i") = some (.int i tt)) ∧ news = _)
          rfl R9 hsmall (by rw [rangeSize_nat]; omega) F9 N9 ⟨hm1, hm2, ⟨_, hm3⟩, ⟨_, hm4⟩, ⟨_, hm5⟩, ⟨_, rfl⟩, rfl⟩ ?_ ?_
        · clear R9 F9 N9 hsmall hI
          rintro I₂ j m₂ news₂ tj hy tky hI₂ hjn ⟨hm1, hm2, ⟨tt3, hm3⟩, ⟨tt4, hm4⟩, ⟨tt5, hm5⟩, ⟨tt6, hm6⟩, rfl⟩ F N
          simp only [Int.zero_add] at F
          have hlt := hlrV i j (by omega) (by omega)
          k_steps
          all_goals first
            | (refine Halt.intro ?_
               rename Fr _ _ _ _ => Fz
               rename News _ _ _ _ => Nz
               exact unr_end Fz Nz (fun p hp => Nat.ne_of_lt (hI₂ p hp)) ⟨hm1, hm2, ⟨_, hm3⟩, ⟨_, hm4⟩, ⟨_, hm5⟩, ⟨_, hm6⟩, rfl⟩)
            | exact absurd ⟨by with_reducible assumption, by with_reducible assumption, by with_reducible assumption⟩ hlt
        · clear R9 F9 N9 hsmall
          rintro m₂ news₂ hy tky ⟨hm1, hm2, ⟨tt3, hm3⟩, ⟨tt4, hm4⟩, ⟨tt5, hm5⟩, ⟨tt6, hm6⟩, rfl⟩ F N
          k_steps
          refine Halt.intro ?_
          rename Fr _ _ _ _ => Fz
          rename News _ _ _ _ => Nz
          exact unr_end Fz Nz (fun p hp => Nat.ne_of_lt (hI p hp)) ⟨hm1, hm2, ⟨_, hm3⟩, ⟨_, hm4⟩, ⟨_, hm5⟩, rfl⟩
      · clear R9 F9 N9 hsmall
        rintro m₁ news₁ hx tkx ⟨hm1, hm2, ⟨tt3, hm3⟩, ⟨tt4, hm4⟩, ⟨tt5, hm5⟩, rfl⟩ F N
        k_steps
        refine Halt.intro ?_
        have lV : hx.IsList Dv ys.toArray := News.isList N (by k_mem)
        have lb : hx.IsList rb ysb.toArray := News.isList N (by k_mem)
        refine' iq_spec w lV hV lb hib (by omega) b1 b2 (by omega) hS2 (by omega) hVs2 b3 ?jdp ?jun ?_ ?jX ?jT
        case jdp => simp only [recursionLimit] at *; omega
        case jun => show un + 3 + 20 < cLine; omega
        case jX => exact X.keeps F.keep
        case jT => exact T.keeps F.keep
        intro hz tkz hext
        have Fz := F.keeps hext
        k_steps
        exact h _ _ _ KtsTurn.refl Fz.keep
end Mine
end PartGR
section PartTurns
open PySem PySem.W PySem.Calls PyProof.Rows PySem.Spec
set_option maxRecDepth 100000
namespace Mine
section
variable {prog : Program} {w : World} {A : Around} {E : Value → Shared → Prop} {s : Shared} {env : Env} {h₀ : Heap} {x : Str} {px : Pos} {body : List Stmt} {Q : Flow → Shared → Prop}
/-- a for over a range whose target the walk itself assigns (a cell): by an invariant -/
theorem range_turns {r : Addr} {a₀ b₀ : Int} {t₀ u₀ v₀ : Tok} {n : Nat} {m₀ : Str → Option Value} {news : List (Addr × Obj)} (J : Nat → (Str → Option Value) → List (Addr × Obj) → Prop)
    (hh : A.handled = none) (hr : IsRange s.heap r a₀ b₀ 1 t₀ u₀ v₀) (hsmall : Builtin.Range.small a₀ b₀ 1 = true) (hn : Builtin.Range.rangeSize a₀ b₀ 1 = (n : Int)) (F : Fr h₀ env.locals s.heap m₀) (N : News h₀ env.locals s.heap news)
    (h0 : J 0 m₀ news)
    (turn : ∀ I i m₁ news₁ t h tk, (∀ p ∈ news, p.1 < I) → i < n → J i m₁ news₁ → (∀ p ∈ news₁, p.1 ≠ I) → Fr h₀ env.locals h m₁ →
      News h₀ env.locals h ((I, itR (a₀ + ((i + 1 : Nat) : Int)) ((n : Int) - ((i + 1 : Nat) : Int))) :: news₁) →
      wpAny (model prog w) A (assign (.Name x px) env (.int (a₀ + (i : Int)) t)) (fun _ s₃ => wpAny (model prog w) A (execs body env) (UnrPost h₀ env.locals { s with heap := h, toks := tk } I (itR (a₀ + ((i + 1 : Nat) : Int)) ((n : Int) - ((i + 1 : Nat) : Int))) (J (i + 1)) Q) E s₃) E { s with heap := h, toks := tk })
    (done : ∀ m₁ news₁ h tk, J n m₁ news₁ → Fr h₀ env.locals h m₁ → News h₀ env.locals h news₁ → Q .next { s with heap := h, toks := tk }) :
    wpAny (model prog w) A (pyIter (.ref r)) (fun it s₂ => TurnsAt prog w A h₀ env (.Name x px) body Q E it s₂) E s := by
  refine wpAny_pyIter_range hr hsmall ?_
  have hI : ∀ p ∈ news, p.1 < s.heap.objs.size := fun p hp => Heap.lt_size (N p hp).1
  have W : Walks prog w A s.heap.objs.size [s.heap.objs.size] [s.heap.objs.size] n (fun i v => i < n ∧ ∃ t, v = .int (a₀ + i * 1) t)
      (fun i h => IsRangeIter h s.heap.objs.size (a₀ + (i : Nat) * 1) ((n : Int) - (i : Nat)) 1) := (Walks.range hh _ a₀ 1 n).bound
  have hnew := next_is_new F
  refine ⟨_, _, _, n, _, _, _, m₀, news, J, rfl, KTurns.ofWalks W (fun i v s Q E st q => ?_), ?_, ?_, ?_, (by show IsRangeIter _ _ _ _ _; rw [hn]; simpa using Heap.get?_push_size _ rfl), F.push _, (fun p hp => ⟨Heap.get?_push_of_some _ (N p hp).1, (N p hp).2⟩), h0, ?_, ?_⟩
  · exact wpAny_pure q
  · intro hm
    exact absurd F.ns.lt ((List.mem_singleton.mp hm) ▸ Nat.lt_irrefl _)
  · intro b hb
    rw [List.mem_singleton.mp hb]
    exact hnew
  · intro p hp hI'
    exact absurd (hI p hp) ((List.mem_singleton.mp hI') ▸ Nat.lt_irrefl _)
  · rintro i v m₁ news₁ hh' tk' own hin ⟨_, t, rfl⟩ hJ hoff hown hget hall hst F₁ N₁
    have hst' : hh'.get? s.heap.objs.size = some (itR (a₀ + ((i + 1 : Nat) : Int)) ((n : Int) - ((i + 1 : Nat) : Int))) := by
      have q : IsRangeIter hh' s.heap.objs.size (a₀ + ((i + 1 : Nat) : Int) * 1) ((n : Int) - ((i + 1 : Nat) : Int)) 1 := hst
      rw [Int.mul_one] at q
      exact q
    have hmem := hall s.heap.objs.size (List.mem_singleton.mpr rfl) hnew _ hst'
    have e1 : a₀ + (i : Int) * 1 = a₀ + (i : Int) := by rw [Int.mul_one]
    rw [e1]
    have N₂ : News h₀ env.locals hh' ((s.heap.objs.size, itR (a₀ + ((i + 1 : Nat) : Int)) ((n : Int) - ((i + 1 : Nat) : Int))) :: news₁) := fun p hp => by
      rcases List.mem_cons.mp hp with rfl | hp
      · exact N₁ _ (List.mem_append_left _ hmem)
      · exact N₁ _ (List.mem_append_right _ hp)
    refine wpAny_mono (turn s.heap.objs.size i m₁ news₁ t hh' tk' hI hin hJ (fun p hp e => hoff p hp (List.mem_singleton.mpr e)) F₁ N₂) (fun _ s₃ h₃ => wpAny_mono h₃ (fun f s₂ p => ?_) fun _ _ e => e) fun _ _ e => e
    have fin : UnrEnd h₀ env.locals { s with heap := hh', toks := tk' } s.heap.objs.size (itR (a₀ + ((i + 1 : Nat) : Int)) ((n : Int) - ((i + 1 : Nat) : Int))) (J (i + 1)) s₂ →
        LoopStepU h₀ env.locals [s.heap.objs.size] own (J (i + 1)) { s with heap := hh', toks := tk' } .next s₂ := by
      rintro ⟨h', tk, m', news', e, F', N', ho, r⟩
      refine ⟨rfl, h', tk, m', news', e, F', fun p hp => ?_, fun p hp hI => ho p hp (List.mem_singleton.mp hI), r⟩
      rcases List.mem_append.mp hp with hp | hp
      · have h1 : p.1 = s.heap.objs.size := List.mem_singleton.mp (hown p hp)
        have h2 : hh'.get? p.1 = some p.2 := hget p hp
        have h3 : p = (s.heap.objs.size, itR (a₀ + ((i + 1 : Nat) : Int)) ((n : Int) - ((i + 1 : Nat) : Int))) := by
          rw [h1, hst'] at h2
          exact Prod.ext h1 (Option.some.inj h2).symm
        rw [h3]; exact N' _ (List.mem_cons_self ..)
      · exact N' _ (List.mem_cons_of_mem _ hp)
    cases f with
    | ret v => exact .ret p
    | brk => exact .brk p
    | next => exact .next (fin p)
    | cont => exact .cont (fin p)
  · rintro h' tk m' news' F' N' _ hJ
    exact done m' news' h' tk hJ F' N'
end
end Mine
end PartTurns
section PartAll
open PySem PySem.W PySem.Calls PyProof.Rows
set_option maxRecDepth 100000
set_option maxHeartbeats 8000000
namespace Mine
/-- the ways to hand s seats to p + 1 parties, in the order of the code -/
def allRows : Nat → Nat → List (List Int)
  | 0, s => [[(s : Int)]]
  | p + 1, s => (List.range (s + 1)).flatMap fun f => (allRows p (s - f)).map fun r => (f : Int) :: r
inductive RowsAt (RL : List (Addr × Obj)) : List Value → List (List Int) → Prop
  | nil : RowsAt RL [] []
  | cons {a : Addr} {ys : List Value} {n : Nat} {r : List Int} {vs : List Value} {rs : List (List Int)} : (a, lob ys n) ∈ RL → IntsAre ys r → RowsAt RL vs rs → RowsAt RL (.ref a :: vs) (r :: rs)
theorem RowsAt.mono {RL RL' : List (Addr × Obj)} {vs : List Value} {rs : List (List Int)} (h : RowsAt RL vs rs) (hs : ∀ p ∈ RL, p ∈ RL') : RowsAt RL' vs rs := by
  induction h with
  | nil => exact .nil
  | cons h1 h2 _ ih => exact .cons (hs _ h1) h2 ih
theorem RowsAt.append {RL : List (Addr × Obj)} {vs vs' : List Value} {rs rs' : List (List Int)} (h : RowsAt RL vs rs) (h' : RowsAt RL vs' rs') : RowsAt RL (vs ++ vs') (rs ++ rs') := by
  induction h with
  | nil => exact h'
  | cons h1 h2 _ ih => exact .cons h1 h2 ih
theorem RowsAt.length {RL : List (Addr × Obj)} {vs : List Value} {rs : List (List Int)} (h : RowsAt RL vs rs) : vs.length = rs.length := by
  induction h with
  | nil => rfl
  | cons _ _ _ ih => simp [ih]
theorem RowsAt.get {RL : List (Addr × Obj)} {vs : List Value} {rs : List (List Int)} (h : RowsAt RL vs rs) : ∀ (i : Nat) (v : Value), vs[i]? = some v → ∃ a ys n r, v = .ref a ∧ (a, lob ys n) ∈ RL ∧ IntsAre ys r ∧ rs[i]? = some r := by
  induction h with
  | nil => intro i v e; simp at e
  | cons h1 h2 _ ih =>
    intro i v e
    cases i with
    | zero => simp at e; exact ⟨_, _, _, _, e.symm, h1, h2, rfl⟩
    | succ i => exact ih i v (by simpa using e)

theorem news_seg {h₀ h h' : Heap} {L : Addr} {m : Str → Option Value} {news RL : List (Addr × Obj)} (F : Fr h₀ L h m) (N : News h₀ L h news) (hx : Ext h h') (hr : ∀ p ∈ RL, h'.get? p.1 = some p.2 ∧ h.get? p.1 = none) : News h₀ L h' (news ++ RL) := fun p hp => by
  rcases List.mem_append.mp hp with hp | hp
  · exact ⟨hx _ _ (N p hp).1, (N p hp).2⟩
  · obtain ⟨hg, hn⟩ := hr p hp
    refine ⟨hg, fun e => ?_, ?_⟩
    · obtain ⟨oL, _, _, hL, _⟩ := F.ns
      have e' : p.1 = L := e
      rw [e', hL] at hn; cases hn
    · cases q : h₀.get? p.1 with
      | none => rfl
      | some o' => have := F.keep p.1 o' q; rw [hn] at this; cases this

theorem allRows_len : ∀ p, p < 4 → ∀ s, s < 7 → (allRows p s).length ≤ 84 := by decide +kernel
theorem allRows_row : ∀ p s, ∀ r ∈ allRows p s, r.length = p + 1
  | 0, s, r, h => by simp [allRows] at h; simp [h]
  | p + 1, s, r, h => by
    simp only [allRows, List.mem_flatMap, List.mem_map] at h
    obtain ⟨f, _, r', h', rfl⟩ := h
    simp [allRows_row p _ r' h']
theorem flat_len {α β : Type} {f : α → List β} {k : Nat} : ∀ l : List α, (∀ x ∈ l, (f x).length ≤ k) → (l.flatMap f).length ≤ l.length * k
  | [], _ => by simp
  | x :: r, h => by
    have ih := flat_len r fun y hy => h y (List.mem_cons_of_mem _ hy)
    have := h x List.mem_cons_self
    rw [List.flatMap_cons, List.length_append, List.length_cons, Nat.succ_mul]; omega
abbrev AllPost (s : Shared) (Q : Value → Shared → Prop) (rows : List (List Int)) : Prop :=
  ∀ r refs n RL h' tk', Ext s.heap h' → s.heap.get? r = none → h'.get? r = some (lob refs n) → (∀ p ∈ RL, h'.get? p.1 = some p.2 ∧ s.heap.get? p.1 = none) → RowsAt RL refs rows → Q (.ref r) { s with heap := h', toks := tk' }
def AllC (w : World) (p : Nat) : Prop := ∀ {mean : ExcName → Option Value} {mg mb : Str → Option Value} {dp un : Nat} {gd : Option (List Code)} {outs : List Env} {s : Shared} {Q E : Value → Shared → Prop} {P S : Int} {t t2 t3 : Tok},
    P = (p : Int) + 1 → p < 4 → 0 ≤ S → S ≤ 6 → dp + p < recursionLimit → un + 8 * p + 20 < cLine → AllPost s Q (allRows p S.toNat) →
    (hd.heap_39 w.params).In s.heap → Top hd.view_39 (looseW hd.view_39 [Str.ofString "largest_remainder"]) mean mg mb s.heap → wpAny (model PySem.Challenge.rw_ab5001_01.prog w) (ar dp un gd outs) (call (.ref 50) [.int P t, .int S t2, .int 0 t3]) Q E s

local macro_rules | `(tactic| walk_at "MINE enterC") => `(tactic| (refine' code_pureC ?k3 ?k5 ?k6 ?k7 ?k8 ?k9 ?kB ?kD ?_ ?c2 ?c3 ?c4; (case k3 => k_asm); (case k5 => k_asm); (case k6 => k_is); (case k7 => k_is); (case k8 => ktr_room); (case k9 => first | exact BindsTo.of_eq rfl | exact binds_K (by k_in) rfl (by k_is) rfl rfl rfl); (case kB => exact rfl); (case kD => decide +kernel); (case c2 => exact rfl); (case c3 => exact rfl); (case c4 => exact rfl); k_whole))
local macro_rules | `(tactic| walk_at "CompSrc") => `(tactic| (refine Halt.go ?_))
local macro_rules | `(tactic| walk_at "CompEnd") => `(tactic| (refine Halt.go ?_))
local macro_rules | `(tactic| walk_at "UnrEnd") => `(tactic| (refine Halt.go ?_))
local macro_rules | `(tactic| walk_at "pyIter ref") => `(tactic| (refine Halt.go ?_))
local macro_rules | `(tactic| walk_at "call ref") => `(tactic| (refine Halt.go ?_))
local macro_rules | `(tactic| walk_at "call type:range") => `(tactic| (k_here; (rename Fr _ _ _ _ => F9); (rename News _ _ _ _ => N9); (with_unfolding_all refine range2_rows F9 N9 ?_); clear F9 N9; intro h' tk' t1' u1' v1' R' F' N' X'; clear X'))
local macro_rules | `(tactic| walk_at "exec For Name Call cons nil") => `(tactic| (k_here; (rename Fr _ _ _ _ => lF'); (with_unfolding_all refine' For_turns lF' ?_; k_whole)))

local macro_rules | `(tactic| k_all) => `(tactic| assumption)
local macro_rules | `(tactic| walk_at "eval Name") => `(tactic| (k_here; k_dflt (refine' nameX_L ?F ?v ?_ ?a ?b; (case F => k_asm); (case a => rfl); (case b => rfl); (case v => first | exact rfl | assumption); k_whole)))
local macro_rules | `(tactic| walk_at "eval ListComp") => `(tactic| (k_here; k_dflt (refine LCg.ListComp_U (F₀ := by k_asm) (by with_unfolding_all rfl) (by decide) (by rfl) (by decide) (by rfl) ?_)))
local macro_rules | `(tactic| walk_at "binaryOp Add ref ref") => `(tactic| (refine Halt.go ?_))
theorem all_step (w : World) (p : Nat) (ih : ∀ p', p = p' + 1 → AllC w p') {mean : ExcName → Option Value} {mg mb : Str → Option Value} {dp un : Nat} {gd : Option (List Code)} {outs : List Env} {s : Shared} {Q E : Value → Shared → Prop} {P S : Int} {t t2 t3 : Tok}
    (hP : P = (p : Int) + 1) (hp4 : p < 4) (hS : 0 ≤ S) (hS2 : S ≤ 6) (hdp : dp + p < recursionLimit) (hun : un + 8 * p + 20 < cLine) (h : AllPost s Q (allRows p S.toNat)) :
    (hd.heap_39 w.params).In s.heap → Top hd.view_39 (looseW hd.view_39 [Str.ofString "largest_remainder"]) mean mg mb s.heap → wpAny (model PySem.Challenge.rw_ab5001_01.prog w) (ar dp un gd outs) (call (.ref 50) [.int P t, .int S t2, .int 0 t3]) Q E s := by
  w_on
  k_fill
  intro X T
  refine wpAny_call ?_
  k_dflt walk_at "MINE enterC"
  intro h₁ tk₁ cells F₁ N₁ Y
  obtain ⟨oS, rfl, d1⟩ := CellsAre.one Y
  clear Y
  dsimp only
  k_unmd
  k_fold
  k_steps
  · rename Fr _ _ _ _ => F
    rename News _ _ _ _ => N
    rename _ < _ ∧ _ => lt
    rename_i lr hr l1 lo hh1
    obtain rfl : p = 0 := by omega
    have hnone : s.heap.get? lo = none := (N (lo, _) (by k_mem)).2.2
    refine h lo _ _ [(lr, lob [.int S t2] 0)] _ _ F.keep hnone (N (lo, lob [.ref lr] 0) (by k_mem)).1 ?_ ?_
    · intro p hp
      obtain rfl := List.mem_singleton.mp hp
      exact ⟨(N (lr, lob [.int S t2] 0) (by k_mem)).1, (N (lr, lob [.int S t2] 0) (by k_mem)).2.2⟩
    · have e : S = (S.toNat : Int) := by omega
      refine .cons List.mem_cons_self ?_ .nil
      show IntsAre [Value.int S t2] [(S.toNat : Int)]
      rw [← e]
      exact .cons _ _ .nil
  · refine Halt.intro ?_
    obtain ⟨p', rfl⟩ : ∃ p', p = p' + 1 := ⟨p - 1, by omega⟩
    have IH : AllC w p' := ih p' rfl
    clear ih
    rename IsRange _ _ _ _ _ _ _ _ => R6
    rename Fr _ _ _ _ => F6
    rename News _ _ _ _ => N6
    have hsmall : Builtin.Range.small 0 (S + 1) 1 = true := small_one (by omega) (by omega) (by omega) (by omega)
    refine range_turns (n := S.toNat + 1) (fun i m news => (∃ tt, m (Str.ofString "parties") = some (.int P tt)) ∧ (∃ tt, m (Str.ofString "seats") = some (.int S tt)) ∧ (∃ tt, m (Str.ofString "least") = some (.int 0 tt)) ∧
        ∃ Dr refs n oC RL, m (Str.ofString "rows") = some (.ref Dr) ∧ news = (Dr, lob refs n) :: (s.heap.objs.size + 1, oC) :: RL ∧ (∃ vv, oC.data = .cell vv) ∧ s.heap.objs.size + 1 < Dr ∧ (∀ q ∈ RL, q.1 ≠ s.heap.objs.size + 1) ∧ RowsAt RL refs ((List.range i).flatMap fun f => (allRows p' (S.toNat - f)).map fun r => (f : Int) :: r))
      rfl R6 hsmall (by rw [show (S + 1) = ((S.toNat + 1 : Nat) : Int) by omega, rangeSize_nat]; omega) F6 N6 ?_ ?_ ?_
    · refine ⟨⟨_, rfl⟩, ⟨_, rfl⟩, ⟨_, rfl⟩, _, _, _, _, [], rfl, rfl, ⟨_, d1⟩, by assumption, (fun q hq => nomatch hq), ?_⟩
      exact RowsAt.nil
    · clear R6 F6 N6 hsmall
      rintro I i m₁ news₁ ti hx tkx hI hin ⟨⟨tt1, hm1⟩, ⟨tt2, hm2⟩, ⟨tt3, hm3⟩, Dr, refs, n, oC, RL, hm4, rfl, ⟨vv, dC⟩, hDr, hRL, hrows⟩ hne F N
      have hIc : I ≠ s.heap.objs.size + 1 := Ne.symm (hne _ (List.mem_cons_of_mem _ List.mem_cons_self))
      have hID : Dr ≠ I := hne _ List.mem_cons_self
      have hRI : ∀ q ∈ RL, q.1 ≠ I := fun q hq => hne q (List.mem_cons_of_mem _ (List.mem_cons_of_mem _ hq))
      have hRc : ∀ q ∈ RL, q.1 ≠ s.heap.objs.size + 1 := hRL
      k_steps
      refine Halt.intro ?_
      rename_i h2 oC2 F2 N2 dC2
      have hIsz : I < h2.objs.size := Heap.lt_size (N2 (I, _) (by k_mem)).1
      refine IH (by omega) (by omega) (by omega) (by omega) (by show dp + 1 + p' < recursionLimit; omega) (by show un + 3 + 8 * p' + 20 < cLine; omega) ?_ (X.keeps F2.keep) (T.keeps F2.keep)
      intro r refs' n' RL' h3 tk3 hext hr hg hRL' hrows'
      have F3 := F2.keeps hext
      have N3 := news_seg (RL := (r, lob refs' n') :: RL') F2 N2 hext (fun q hq => by
        rcases List.mem_cons.mp hq with rfl | hq
        · exact ⟨hg, hr⟩
        · exact hRL' q hq)
      have hnI : ∀ q ∈ RL', q.1 ≠ I := fun q hq e => by
        have h1 := (hRL' q hq).2
        rw [e, (N2 (I, _) (by k_mem)).1] at h1; cases h1
      have hnc : ∀ q ∈ RL', q.1 ≠ s.heap.objs.size + 1 := fun q hq e => by
        have h1 := (hRL' q hq).2
        rw [e, (N2 (s.heap.objs.size + 1, oC2) (by k_mem)).1] at h1; cases h1
      clear hext hr hg hRL' F2 N2
      have hmem : (r, lob refs' n') ∈ ((I, itR (0 + ((i + 1 : Nat) : Int)) (((S.toNat + 1 : Nat) : Int) - ((i + 1 : Nat) : Int))) :: (Dr, lob refs n) :: (s.heap.objs.size + 1, oC2) :: RL) ++ (r, lob refs' n') :: RL' := List.mem_append_right _ List.mem_cons_self
      refine LCg.CompSrc.ledger rfl F3 N3 hmem ?_ ?_
      · rw [List.size_toArray, hrows'.length, sizeLine_eq]
        have := allRows_len p' (by omega) (S - (0 + (i : Int))).toNat (by omega)
        omega
      intro g
      refine rest_tail (fun j ys TL => RowsAt TL ys (((allRows p' (S - (0 + (i : Int))).toNat).take j).map fun r => (i : Int) :: r) ∧ ∀ q ∈ TL, q.1 ≠ I ∧ q.1 ≠ s.heap.objs.size + 1) ⟨by rw [List.take_zero]; exact RowsAt.nil, fun q hq => nomatch hq⟩ ?_ ?_
      · clear F3 N3
        rintro j v ys TL I2 oI C oC' D m₂ h4 tk4 E' hj hv ⟨hJ1, hJ2⟩ hC hy F4 N4 off ne4
        obtain ⟨a, xs, na, row, rfl, hmr, hxs, hrow⟩ := hrows'.get j v (by simpa using hv)
        simp only [List.cons_append, List.nil_append] at N4
        k_steps
        refine Halt.intro ?_
        rename_i l5 h5 F5 N5 lt5
        have hrl := allRows_row _ _ _ (List.mem_of_getElem? hrow)
        refine kmk_add_lit F5 N5 (News.isList (n := 0) N5 (by k_mem)) (News.isList N5 (show (a, lob xs na) ∈ _ by simp only [List.mem_cons, List.mem_append, hmr, true_or, or_true])) rfl ?_ ?_
        · intro D6 h6 F6 N6 lt6
          k_steps
          refine Halt.intro ?_
          have e1 : I2 < D6 := lt6 (I2, oI) (by simp)
          have e2 : C < D6 := lt6 (C, oC') (by simp)
          have e3 : D < D6 := lt6 (D, LCg.lst ys) (by simp)
          have e4 : I < D6 := lt6 (I, itR (0 + ((i + 1 : Nat) : Int)) (((S.toNat + 1 : Nat) : Int) - ((i + 1 : Nat) : Int))) (by simp only [List.mem_cons, true_or, or_true])
          have e5 : s.heap.objs.size + 1 < D6 := lt6 (s.heap.objs.size + 1, oC2) (by simp only [List.mem_cons, true_or, or_true])
          refine end_one F6 (fun p hp => N6 p (by
            rcases List.mem_cons.mp hp with h | h
            · exact h ▸ List.mem_cons_self
            · exact List.mem_cons_of_mem _ (List.mem_cons_of_mem _ h))) off (Ne.symm (Nat.ne_of_lt e1)) (Ne.symm (Nat.ne_of_lt e2)) (Ne.symm (Nat.ne_of_lt e3)) ?_ ⟨_, rfl, ?_⟩
          · exact Or.inr ⟨_, List.mem_append_left _ hmem, rfl, _, rfl⟩
          · refine ⟨?_, ?_⟩
            · rw [List.take_add_one, hrow, Option.toList_some, List.map_append]
              refine RowsAt.append (hJ1.mono fun p hp => List.mem_cons_of_mem _ hp) (RowsAt.cons (n := 0) (ys := .int (0 + (i : Int)) ti :: xs) List.mem_cons_self ?_ .nil)
              rw [Int.zero_add]
              exact .cons _ _ hxs
            · intro q hq
              rcases List.mem_cons.mp hq with rfl | hq
              · exact ⟨Ne.symm (Nat.ne_of_lt e4), Ne.symm (Nat.ne_of_lt e5)⟩
              · exact hJ2 q hq
        · have := hxs.length
          simp only [sizeLine_eq, List.length_cons, List.length_nil]
          omega
      · clear F3 N3
        rintro ys TL ⟨hJ1, hJ2⟩ D h4 tk4 F4 N4 o1
        simp only [List.cons_append] at N4 o1
        k_steps
        refine Halt.intro ?_
        have hye : (S - (0 + (i : Int))).toNat = S.toNat - i := by omega
        have hyl : refs'.toArray.size = (allRows p' (S.toNat - i)).length := by rw [List.size_toArray, hrows'.length, hye]
        rw [hyl, hye, List.take_length] at hJ1
        have hsnoc : RowsAt (TL ++ RL) (refs ++ ys) ((List.range (i + 1)).flatMap fun f => (allRows p' (S.toNat - f)).map fun r => (f : Int) :: r) := by
          rw [List.range_succ, List.flatMap_append, List.flatMap_cons, List.flatMap_nil, List.append_nil]
          exact RowsAt.append (hrows.mono fun q hq => List.mem_append_right _ hq) (hJ1.mono fun q hq => List.mem_append_left _ hq)
        have hl1 : refs.length ≤ 7 * 84 := by
          rw [hrows.length]
          refine Nat.le_trans (flat_len (k := 84) _ fun f hf => ?_) ?_
          · rw [List.length_map]; exact allRows_len p' (by omega) _ (by omega)
          · rw [List.length_range]; exact Nat.mul_le_mul_right _ (by omega)
        have hl2 : ys.length ≤ 84 := by
          rw [hJ1.length, List.length_map]; exact allRows_len p' (by omega) _ (by omega)
        refine kmk_add_lit F4 N4 (News.isList (n := n) N4 (show (Dr, lob refs n) ∈ _ by simp only [List.mem_cons, true_or, or_true])) (News.isList (n := ys.length) N4 (by k_mem)) rfl ?_ ?_
        · intro D6 h6 F6 N6 lt6
          k_steps
          refine Halt.intro ?_
          rename Fr _ _ _ _ => Fz
          rename News _ _ _ _ => Nz
          have e0 : I < D6 := lt6 (I, itR (0 + ((i + 1 : Nat) : Int)) (((S.toNat + 1 : Nat) : Int) - ((i + 1 : Nat) : Int))) (by simp only [List.mem_cons, true_or, or_true])
          have e5 : s.heap.objs.size + 1 < D6 := lt6 (s.heap.objs.size + 1, oC2) (by simp only [List.mem_cons, true_or, or_true])
          refine unr_end (news' := (D6, lob (refs ++ ys) 0) :: (s.heap.objs.size + 1, oC2) :: (TL ++ RL)) Fz (fun q hq => Nz q ?_) ?_ ?_
          · simp only [List.mem_cons, List.mem_append] at hq ⊢
            rcases hq with hq | hq | hq | hq | hq <;> simp only [hq, true_or, or_true]
          · intro q hq
            rcases List.mem_cons.mp hq with rfl | hq
            · exact Ne.symm (Nat.ne_of_lt e0)
            rcases List.mem_cons.mp hq with rfl | hq
            · exact Ne.symm hIc
            rcases List.mem_append.mp hq with hq | hq
            · exact (hJ2 q hq).1
            · exact hRI q hq
          · refine ⟨⟨_, hm1⟩, ⟨_, hm2⟩, ⟨_, hm3⟩, D6, refs ++ ys, 0, oC2, TL ++ RL, rfl, rfl, ⟨_, dC2⟩, e5, ?_, hsnoc⟩
            intro q hq
            rcases List.mem_append.mp hq with hq | hq
            · exact (hJ2 q hq).2
            · exact hRL q hq
        · rw [sizeLine_eq]; simp only []; omega
    · clear R6 F6 N6 hsmall IH
      rintro m₁ news₁ hx tkx ⟨_, _, _, Dr, refs, n, oC, RL, hm4, rfl, ⟨vv, dC⟩, hDr, hRL, hrows⟩ F N
      k_steps
      refine h Dr refs n RL _ _ F.keep (N (Dr, lob refs n) List.mem_cons_self).2.2 (N (Dr, lob refs n) List.mem_cons_self).1 (fun q hq => ?_) hrows
      have := N q (List.mem_cons_of_mem _ (List.mem_cons_of_mem _ hq))
      exact ⟨this.1, this.2.2⟩
theorem all_spec (w : World) : ∀ p, AllC w p
  | 0 => fun a b c d e f g => all_step w 0 (fun _ e => nomatch e) a b c d e f g
  | p + 1 => fun a b c d e f g => all_step w (p + 1) (fun p' e => by cases e; exact all_spec w p) a b c d e f g
end Mine
end PartAll
section PartCellComp
open PySem PySem.W PySem.Calls PyProof.Rows
set_option maxRecDepth 100000
namespace Mine
section
variable {M : Model} {A : Around} {E : Value → Shared → Prop} {s : Shared}
/-- the block of a comprehension whose one own cell is its target -/
theorem newEnv_cell {env : Env} {scope : Scope} {cl : List (Str × Addr)} {x : Str} {Q : Env → Shared → Prop}
    (hp : ∀ h : Heap, pushCells h scope.names = h.push { cls := .type "cell", data := .cell none })
    (hc : ∀ b : Nat, cellsFrom b scope.names cl = (x, b) :: cl)
    (h : Q (newEnv scope s.heap.objs.size env.globals ((x, s.heap.objs.size + 1) :: cl) env.qual none .none (some env) builtinsNs)
      { s with heap := (s.heap.push { cls := .type "dict", data := .dict #[] }).push { cls := .type "cell", data := .cell none } }) :
    wpAny M A (newFunctionEnv scope env.globals cl [] env.qual none .none (some env)) Q E s := by
  simp only [newFunctionEnv, Option.isSome_some, if_true]
  refine wpAny_bind (wpAny_alloc ?_)
  refine wpAny_bind (wpAny_layCells _ (fun name kind cells => by cases hkc : kind == NameKind.cell <;> simp [hkc]) _ _ _ _ ?_)
  rw [hp, hc]
  refine wpAny_bind ?_
  rw [List.forIn_nil]
  refine wpAny_pure (wpAny_pure ?_)
  rw [show ({ s with heap := s.heap.push { cls := .type "dict", data := .dict #[] } } : Shared).heap.objs.size = s.heap.objs.size + 1 from Heap.size_push ..]
  exact h
end
section
variable {prog : Program} {w : World} {A : Around} {E : Value → Shared → Prop} {s : Shared} {h₀ : Heap} {L : Addr} {m : Str → Option Value} {env : Env}

def CellEnd (h₀ : Heap) (L : Addr) (m : Str → Option Value) (n : Int) (news : List (Addr × Obj)) (s₂ : Shared) (y : Value) (s' : Shared) : Prop :=
  ∃ h' tk' t, s' = { s₂ with heap := h', toks := tk' } ∧ y = .int n t ∧ Fr h₀ L h' m ∧ News h₀ L h' news
theorem CellEnd.intro {n : Int} {news all : List (Addr × Obj)} {s₂ : Shared} {h' : Heap} {tk' : Nat} {t : Tok} (F : Fr h₀ L h' m) (N : News h₀ L h' all) (sub : ∀ p ∈ news, p ∈ all) : CellEnd h₀ L m n news s₂ (.int n t) { s₂ with heap := h', toks := tk' } :=
  ⟨h', tk', t, rfl, rfl, F, fun p hp => N p (sub p hp)⟩
/-- what a turn finds, and must leave behind -/
def CellTurns (prog : Program) (w : World) (A : Around) (h₀ : Heap) (L : Addr) (m : Str → Option Value) (env : Env) (elt : Expr) (x : Str) (scope : Scope) (cl : List (Str × Addr)) (its : Array Value) (g : Nat → Int) (news : List (Addr × Obj)) (s₂ : Shared) : Prop :=
  ∀ i v I oI C oC R oR D ys h tk (E' : Value → Shared → Prop), its[i]? = some v → oR.data = .cell (some v) → Fr h₀ L h m → News h₀ L h ((I, oI) :: (C, oC) :: (R, oR) :: (D, LCg.lst ys) :: news) →
    wpAny (model prog w) A (eval elt (compEnvC scope ((x, R) :: cl) C env)) (CellEnd h₀ L m (g i) ((I, oI) :: (C, oC) :: (R, oR) :: (D, LCg.lst ys) :: news) s₂) E' { s₂ with heap := h, toks := tk }

def CellSrc (prog : Program) (w : World) (A : Around) (h₀ : Heap) (L : Addr) (m : Str → Option Value) (env : Env) (elt : Expr) (x : Str) (scope : Scope) (cl : List (Str × Addr)) (g : Nat → Int) (Q : Value → Shared → Prop) (xv : Value) (s₁ : Shared) : Prop :=
  ∃ ax its k news, xv = .ref ax ∧ A.handled = none ∧ Fr h₀ L s₁.heap m ∧ News h₀ L s₁.heap news ∧ (ax, ({ cls := .type "list", data := .seq its k } : Obj)) ∈ news ∧ its.size ≤ sizeLine ∧
      ∀ hh, CellTurns prog w A h₀ L m env elt x scope cl its g news { s₁ with heap := hh } ∧
        ∀ ys D h tk, IntsAre ys ((List.range its.size).map g) → Fr h₀ L h m → News h₀ L h ((D, LCg.lst ys) :: news) → LCg.Off1 D news → Q (.ref D) { s₁ with heap := h, toks := tk }
theorem CellSrc.intro {elt : Expr} {x : Str} {scope : Scope} {cl : List (Str × Addr)} {g : Nat → Int} {Q : Value → Shared → Prop} {s₁ : Shared} {ax : Addr} {its : Array Value} {k : Nat} {news : List (Addr × Obj)}
    (hh : A.handled = none) (F : Fr h₀ L s₁.heap m) (N : News h₀ L s₁.heap news) (hm : (ax, ({ cls := .type "list", data := .seq its k } : Obj)) ∈ news) (hsz : its.size ≤ sizeLine)
    (turn : ∀ hh, CellTurns prog w A h₀ L m env elt x scope cl its g news { s₁ with heap := hh })
    (fin : ∀ ys D h tk, IntsAre ys ((List.range its.size).map g) → Fr h₀ L h m → News h₀ L h ((D, LCg.lst ys) :: news) → LCg.Off1 D news → Q (.ref D) { s₁ with heap := h, toks := tk }) :
    CellSrc prog w A h₀ L m env elt x scope cl g Q (.ref ax) s₁ := ⟨ax, its, k, news, rfl, hh, F, N, hm, hsz, fun hh => ⟨turn hh, fin⟩⟩
theorem comp_cell {elt iter : Expr} {x : Str} {px : Pos} {scope : Scope} {cl : List (Str × Addr)} {pos : Pos} {Q : Value → Shared → Prop} (hF₀ : Fr h₀ L s.heap m) (g : Nat → Int)
    (hclos : closureFor scope env = pure cl) (hkind : scope.kind = .function)
    (hnames : ∀ y ∈ scope.names, y.2 = .local → scope.names.lookup y.1 = some .local)
    (hp : ∀ h : Heap, pushCells h scope.names = h.push { cls := .type "cell", data := .cell none })
    (hc : ∀ b : Nat, cellsFrom b scope.names cl = (x, b) :: cl)
    (hx : ∀ R C : Addr, (compEnvC scope ((x, R) :: cl) C env).kindOf x = some .cell)
    (h : wpAny (model prog w) A (eval iter env) (CellSrc prog w A h₀ L m env elt x scope cl g Q) E s)
    (hs : ∀ x, foldedSetIterable iter env x = pure x := by intro _; rfl) :
    wpAny (model prog w) A (eval (.ListComp elt [⟨.Name x px, iter, [], 0⟩] scope pos) env) Q E s := by
  rw [eval_ListComp]
  refine wpAny_comprehension_free (use := none) rfl hs hclos hkind hnames (wpAny_mono h (fun xv s₁ h₁ => ?_) fun _ _ e => e)
  obtain ⟨ax, its, k, news, rfl, hh, F, N, hax, hsz, R⟩ := h₁
  have hl : s₁.heap.IsList ax its := ⟨_, (N _ hax).1, rfl, _, rfl⟩
  have hlt : @LT.lt Nat _ ax s₁.heap.objs.size := Heap.lt_size (N _ hax).1
  refine wpAny_pyIter_list hl ?_
  obtain ⟨G0, hG0⟩ : ∃ G, G = s₁.heap.push { cls := .type "list_iterator", data := .fields #[.ref ax, .int 0 0] } := ⟨_, rfl⟩
  obtain ⟨I, hI⟩ : ∃ I, I = s₁.heap.objs.size := ⟨_, rfl⟩
  have sz0 : G0.objs.size = I + 1 := by rw [hG0, Heap.size_push, hI]
  obtain ⟨turn, fin⟩ := R G0
  rw [← hG0, ← hI]
  have hIter : G0.IsListIter I ax 0 := by rw [hG0, hI]; exact ⟨_, Heap.get?_push_size _ rfl, rfl, rfl⟩
  have up0 : ∀ b o, s₁.heap.get? b = some o → G0.get? b = some o := fun b o e => by rw [hG0]; exact Heap.get?_push_of_some _ e
  refine wpAny_newObj_type (newEnv_cell hp hc ?_)
  dsimp only
  obtain ⟨D, hD⟩ : ∃ D, D = G0.objs.size := ⟨_, rfl⟩
  obtain ⟨G1, hG1⟩ : ∃ G, G = G0.push { cls := .type "list", dict := none, data := .seq ([] : List Value).toArray } := ⟨_, rfl⟩
  rw [← hG1, ← hD]
  have sz1 : G1.objs.size = D + 1 := by rw [hG1, Heap.size_push, hD]
  obtain ⟨C, hC⟩ : ∃ C, C = G1.objs.size := ⟨_, rfl⟩
  obtain ⟨G2, hG2⟩ : ∃ G, G = G1.push { cls := .type "dict", data := .dict #[] } := ⟨_, rfl⟩
  have sz2 : G2.objs.size = C + 1 := by rw [hG2, Heap.size_push, hC]
  rw [← hG2, ← hC]
  obtain ⟨Rc, hRc⟩ : ∃ R, R = G2.objs.size := ⟨_, rfl⟩
  obtain ⟨G3, hG3⟩ : ∃ G, G = G2.push { cls := .type "cell", data := .cell none } := ⟨_, rfl⟩
  rw [← hG3, ← sz2, ← hRc]
  have up1 : ∀ b o, G0.get? b = some o → G1.get? b = some o := fun b o e => by rw [hG1]; exact Heap.get?_push_of_some _ e
  have up2 : ∀ b o, G1.get? b = some o → G2.get? b = some o := fun b o e => by rw [hG2]; exact Heap.get?_push_of_some _ e
  have up3 : ∀ b o, G2.get? b = some o → G3.get? b = some o := fun b o e => by rw [hG3]; exact Heap.get?_push_of_some _ e
  have up : ∀ b o, s₁.heap.get? b = some o → G3.get? b = some o := fun b o e => up3 _ _ (up2 _ _ (up1 _ _ (up0 _ _ e)))
  have gD : G3.get? D = some (LCg.lst []) := up3 _ _ (up2 _ _ (by rw [hG1, hD]; exact Heap.get?_push_size _ rfl))
  have gC : G3.Ns C (fun _ => none) := by
    have := (Heap.Ns.new G1 (.type "dict")).keeps (h' := G3) (fun b o e => by rw [← hG2] at e; exact up3 _ _ e)
    rw [← hC] at this; exact this
  have gR : G3.IsCell Rc none := ⟨_, by rw [hG3, hRc]; exact Heap.get?_push_size _ rfl, rfl⟩
  have gI : G3.IsListIter I ax 0 := by
    obtain ⟨o, e, r⟩ := hIter
    exact ⟨o, up3 _ _ (up2 _ _ (up1 _ _ e)), r⟩
  have q1 : @LT.lt Nat _ L s₁.heap.objs.size := F.ns.lt
  have fresh₀ : ∀ a : Nat, s₁.heap.objs.size ≤ a → h₀.get? a = none := fun a ha => by
    cases e : h₀.get? a with
    | none => rfl
    | some o' => exact absurd (Heap.lt_size (F.keep a o' e)) (Nat.not_lt.mpr ha)
  have nb : ∀ p ∈ news, @LT.lt Nat _ p.1 I := fun p hp => by rw [hI]; exact Heap.lt_size (N p hp).1
  have iI : h₀.get? I = none := fresh₀ I (by omega)
  have iD : h₀.get? D = none := fresh₀ D (by omega)
  have iC : h₀.get? C = none := fresh₀ C (by omega)
  have iR : h₀.get? Rc = none := fresh₀ Rc (by omega)
  have eD : @Eq Nat D (I + 1) := by omega
  have eC : @Eq Nat C (I + 2) := by omega
  have eR : @Eq Nat Rc (I + 3) := by omega
  have lL : @LT.lt Nat _ L I := by omega
  have lax : @LT.lt Nat _ ax I := by omega
  have eI : @Eq Nat I s₁.heap.objs.size := hI
  clear q1 fresh₀ hRc hC hD sz0 sz1 sz2
  have nIC : @Ne Nat I C := by omega
  have nID : @Ne Nat I D := by omega
  have nIR : @Ne Nat I Rc := by omega
  have nCD : @Ne Nat C D := by omega
  have nCR : @Ne Nat C Rc := by omega
  have nDR : @Ne Nat D Rc := by omega
  have nLI : @Ne Nat L I := by omega
  have nLC : @Ne Nat L C := by omega
  have nLD : @Ne Nat L D := by omega
  have nLR : @Ne Nat L Rc := by omega
  have naI : @Ne Nat ax I := by omega
  have nbI : ∀ p ∈ news, @Ne Nat p.1 I := fun p hp => by have := nb p hp; omega
  have nbC : ∀ p ∈ news, @Ne Nat p.1 C := fun p hp => by have := nb p hp; omega
  have nbD : ∀ p ∈ news, @Ne Nat p.1 D := fun p hp => by have := nb p hp; omega
  have nbR : ∀ p ∈ news, @Ne Nat p.1 Rc := fun p hp => by have := nb p hp; omega
  have W : Walks prog w A I [I, ax] [I] its.size (fun i v => its[i]? = some v) (fun i h => h.IsListIter I ax i ∧ h.IsList ax its) := Walks.list hh I ax naI its
  have loop : ∀ tk₀, codeAny (model prog w) A (.compLoop (.ListComp elt [⟨.Name x px, iter, [], 0⟩] scope pos) 0 (.ref I) (.ref D) (compEnvC scope ((x, Rc) :: cl) C env))
      (compPost (model prog w) A E none Q (.ref D) C) { s₁ with heap := G3, toks := tk₀ } := by
    intro tk₀
    refine codeAny_compLoop_tests (fun k s' => ∃ h' tk i ys m' vR, s' = { s₁ with heap := h', toks := tk } ∧ i ≤ its.size ∧ k = its.size + 1 - i ∧ IntsAre ys ((List.range i).map g) ∧ h'.IsListIter I ax i ∧
      Fr h₀ L h' m ∧ h'.Ns C m' ∧ h'.IsCell Rc vR ∧ News h₀ L h' ((D, LCg.lst ys) :: news)) ?_ (its.size + 1) ⟨G3, tk₀, 0, [], _, none, rfl, Nat.zero_le _, rfl, .nil, gI, F.keeps up, gC, gR, fun p hp => ?_⟩
    · rintro k s' ⟨h', tk, i, ys, m', vR, rfl, hi, rfl, hy, hit, F', hn', hr', N'⟩
      have hyl : ys.length = i := by rw [hy.length]; simp
      have hl' : h'.IsList ax its := ⟨_, (N' _ (List.mem_cons_of_mem _ hax)).1, rfl, _, rfl⟩
      by_cases hlt' : i < its.size
      · refine W.item i _ _ _ hlt' ⟨hit, hl'⟩ fun v h₂ tk₂ hPv hst₂ hk₂ => ?_
        have nI : ∀ b : Nat, b ≠ I → ∀ o, h'.get? b = some o → h₂.get? b = some o := fun b hb o e => hk₂ b o (fun hm => hb (List.mem_singleton.mp hm)) e
        obtain ⟨oR0, eR0, dR0⟩ := hr'
        refine wpAny_assign_Name (wpAny_storeName_cell (by simp [compEnvC, relabel, hkind]) (hx Rc C) (c := Rc) (by simp [compEnvC]) ⟨oR0, nI Rc (Ne.symm nIR) _ eR0, dR0⟩ fun h₃ hc₃ hs₃ => ?_)
        refine wpAny_tests_nil ?_
        simp only [if_true]
        have k₃ : ∀ b : Nat, b ≠ Rc → ∀ o, h₂.get? b = some o → h₃.get? b = some o := fun b hb o e => hs₃.extBut b o hb e
        obtain ⟨oI, heI, hdI⟩ := hst₂.1
        have heI₃ := k₃ I nIR oI heI
        obtain ⟨oC, heC, hoC⟩ := LCg.ns_obj (hn'.at' fun o e => k₃ C nCR o (nI C (Ne.symm nIC) o e))
        obtain ⟨oR, heR, hdR⟩ := hc₃
        have F₃ : Fr h₀ L h₃ m := ⟨F'.ns.at' fun o e => k₃ L nLR o (nI L nLI o e), fun b o e => k₃ b (fun q => by rw [show b = Rc from q, iR] at e; cases e) o (nI b (fun q => by rw [show b = I from q, iI] at e; cases e) o (F'.keep b o e)), F'.above⟩
        have N₃ : News h₀ L h₃ ((I, oI) :: (C, oC) :: (Rc, oR) :: (D, LCg.lst ys) :: news) := by
          intro p hp
          rcases List.mem_cons.mp hp with rfl | hp
          · exact ⟨heI₃, Ne.symm nLI, iI⟩
          rcases List.mem_cons.mp hp with rfl | hp
          · exact ⟨heC, Ne.symm nLC, iC⟩
          rcases List.mem_cons.mp hp with rfl | hp
          · exact ⟨heR, Ne.symm nLR, iR⟩
          have z := N' p hp
          rcases List.mem_cons.mp hp with rfl | hp
          · exact ⟨k₃ D nDR _ (nI D (Ne.symm nID) _ z.1), z.2⟩
          · exact ⟨k₃ p.1 (nbR p hp) _ (nI p.1 (nbI p hp) _ z.1), z.2⟩
        refine wpAny_mono (turn i v I oI C oC Rc oR D ys h₃ tk₂ _ hPv hdR F₃ N₃) (fun y s₄ h₄ => ?_) fun _ _ e => e
        obtain ⟨h₄, tk₄, t, rfl, rfl, F₄, N₄⟩ := h₄
        have zI := (N₄ (I, oI) List.mem_cons_self).1
        have zC := (N₄ (C, oC) (List.mem_cons_of_mem _ List.mem_cons_self)).1
        have zR := (N₄ (Rc, oR) (List.mem_cons_of_mem _ (List.mem_cons_of_mem _ List.mem_cons_self))).1
        have zD := N₄ (D, LCg.lst ys) (List.mem_cons_of_mem _ (List.mem_cons_of_mem _ (List.mem_cons_of_mem _ List.mem_cons_self)))
        refine append_at (hsz := by rw [List.size_toArray, hyl]; omega) zD.1 fun h₅ hs₅ hD₅ => ?_
        have k₅ : ∀ b : Nat, b ≠ D → ∀ o, h₄.get? b = some o → h₅.get? b = some o := fun b hb o e => hs₅.extBut b o hb e
        refine ⟨its.size + 1 - (i + 1), by omega, h₅, tk₄, i + 1, ys ++ [.int (g i) t], _, some v, rfl, hlt', rfl, ?_, ⟨oI, k₅ I nID _ zI, hdI⟩, F₄.change hs₅ (Ne.symm nLD) iD,
          (hoC.ns zC).at' fun o e => k₅ C nCD o e, ⟨oR, k₅ Rc (Ne.symm nDR) _ zR, hdR⟩, fun p hp => ?_⟩
        · rw [List.range_succ, List.map_append]
          exact IntsAre.append hy (.cons _ _ .nil)
        · rcases List.mem_cons.mp hp with rfl | hp
          · exact ⟨hD₅.trans (congrArg some (LCg.lst_snoc ys _)), zD.2⟩
          · have z := N₄ p (List.mem_cons_of_mem _ (List.mem_cons_of_mem _ (List.mem_cons_of_mem _ (List.mem_cons_of_mem _ hp))))
            exact ⟨k₅ p.1 (nbD p hp) _ z.1, z.2⟩
      · obtain rfl : i = its.size := Nat.le_antisymm hi (Nat.not_lt.mp hlt')
        refine W.done _ _ _ ⟨hit, hl'⟩ fun h₂ tk₂ hk₂ => ?_
        have nI : ∀ b : Nat, b ≠ I → ∀ o, h'.get? b = some o → h₂.get? b = some o := fun b hb o e => hk₂ b o (fun hm => hb (List.mem_singleton.mp hm)) e
        refine ⟨m', hn'.at' fun o e => nI C (Ne.symm nIC) o e, fun h'' hs'' => ?_⟩
        have k₃ : ∀ b : Nat, b ≠ C → ∀ o, h₂.get? b = some o → h''.get? b = some o := fun b hb o e => hs''.extBut b o hb e
        refine fin ys D h'' tk₂ hy ⟨F'.ns.at' fun o e => k₃ L nLC o (nI L nLI o e), fun b o e => k₃ b (fun q => by rw [show b = C from q, iC] at e; cases e) o (nI b (fun q => by rw [show b = I from q, iI] at e; cases e) o (F'.keep b o e)), F'.above⟩ (fun p hp => ?_) ?_
        · have z := N' p hp
          rcases List.mem_cons.mp hp with rfl | hp
          · exact ⟨k₃ D (Ne.symm nCD) _ (nI D (Ne.symm nID) _ z.1), z.2⟩
          · exact ⟨k₃ p.1 (nbC p hp) _ (nI p.1 (nbI p hp) _ z.1), z.2⟩
        · clear N' N turn fin R
          revert nbD
          generalize news = nw
          intro nbD
          induction nw with
          | nil => trivial
          | cons p r ih => exact ⟨nbD p List.mem_cons_self, ih fun q hq => nbD q (List.mem_cons_of_mem _ hq)⟩
    · rcases List.mem_cons.mp hp with rfl | hp
      · exact ⟨gD, Ne.symm nLD, iD⟩
      · exact ⟨up _ _ (N p hp).1, (N p hp).2⟩
  exact codeAny_compStart_list (loop _) (W.self 0 _ _ _ ⟨gI, _, up _ _ (N _ hax).1, rfl, _, rfl⟩ (loop _))
end
end Mine
end PartCellComp
section PartCompT
open PySem PySem.W PySem.Calls PyProof.Rows
set_option maxRecDepth 100000
namespace Mine
section
variable {prog : Program} {w : World} {A : Around} {h₀ : Heap} {L : Addr} {m : Str → Option Value} {env : Env} {ct elt : Expr} {x : Str} {scope : Scope} {cl : List (Str × Addr)} {s : Shared} {S : List (Addr × Obj) → Prop} {P : Nat → Value → Prop} {Fin : List Value → List (Addr × Obj) → Prop} {news₀ : List (Addr × Obj)}

/-- a comprehension with one test, by an invariant over the turn's number; the ledger comes back as it was -/
theorem rest_genT {n : Nat} (J : Nat → List Value → Prop) (h0 : J 0 [])
    (turn : ∀ i v ys I oI C oC D m₂ h tk (E' : Value → Shared → Prop), i < n → P i v → J i ys → LCg.NsObj oC m₂ → m₂ x = some v → Fr h₀ L h m → News h₀ L h ((I, oI) :: (C, oC) :: (D, LCg.lst ys) :: news₀) → LCg.Off3 I C D news₀ → ((@Ne Nat I C) ∧ (@Ne Nat I D) ∧ (@Ne Nat C D)) →
      wpAny (model prog w) A (isTrue ct (compEnvC scope cl C env) (eval ct (compEnvC scope cl C env))) (fun ok s' => if ok = true then
        wpAny (model prog w) A (eval elt (compEnvC scope cl C env)) (LCg.CompEnd h₀ L m { s with heap := h, toks := tk } I oI C oC D (LCg.lst ys) S (fun y news' => news' = news₀ ∧ J (i + 1) (ys ++ [y]))) E' s'
        else LCg.CompEnd h₀ L m { s with heap := h, toks := tk } I oI C oC D (LCg.lst ys) S (fun _ news' => news' = news₀ ∧ J (i + 1) ys) Value.none s') E' { s with heap := h, toks := tk })
    (fin : ∀ ys, J n ys → Fin ys news₀) : LCt.CompRestT prog w A h₀ L m env ct elt x scope cl s S P Fin n 0 [] news₀ := by
  have key : ∀ (j i : Nat) (ys : List Value), i + j = n → J i ys → LCt.CompRestT prog w A h₀ L m env ct elt x scope cl s S P Fin j i ys news₀ := by
    intro j
    induction j with
    | zero =>
      intro i ys hi hJ
      obtain rfl : i = n := by omega
      exact LCt.CompRestT.zero (fin ys hJ)
    | succ j ih =>
      intro i ys hi hJ
      refine LCt.CompRestT.succ ?_
      intro v I oI C oC D m₂ h tk E' hv hC hx F N off ne
      refine wpAny_mono (turn i v ys I oI C oC D m₂ h tk E' (by omega) hv hJ hC hx F N off ne) (fun b s₂ hq => ?_) fun _ _ e => e
      cases b with
      | true =>
        simp only [if_true] at hq ⊢
        refine wpAny_mono hq (fun y s₃ hr => ?_) fun _ _ e => e
        obtain ⟨h', tk', nw, e, F', N', off', hS, rfl, hJ'⟩ := hr
        exact ⟨h', tk', nw, e, F', N', off', hS, ih (i + 1) _ (by omega) hJ'⟩
      | false =>
        simp only [Bool.false_eq_true, if_false] at hq ⊢
        obtain ⟨h', tk', nw, e, F', N', off', hS, rfl, hJ'⟩ := hq
        exact ⟨h', tk', nw, e, F', N', off', hS, ih (i + 1) _ (by omega) hJ'⟩
  exact key n 0 [] (by omega) h0
end
end Mine
end PartCompT
section PartPlain3
set_option maxHeartbeats 1000000
namespace Mine
def costOf (V : List Int) (S : Int) (n : Nat) (row : List Int) : Int := ((List.range n).map fun k => (row.getD k 0 * V.sum - V.getD k 0 * S) * (row.getD k 0 * V.sum - V.getD k 0 * S)).sum
theorem cost_list {T S : Int} : ∀ (row V : List Int), row.length = V.length → ((List.range V.length).map fun k => (row.getD k 0 * T - V.getD k 0 * S) * (row.getD k 0 * T - V.getD k 0 * S)).sum = csum T S row V
  | [], [], _ => rfl
  | x :: xs, v :: vs, h => by
    have ih := cost_list (T := T) (S := S) xs vs (by simpa using h)
    rw [List.length_cons, List.range_succ_eq_map, List.map_cons, List.sum_cons, List.map_map]
    simp only [csum, cst]
    rw [← ih]
    rfl
  | [], _ :: _, h => by simp at h
  | _ :: _, [], h => by simp at h
theorem cost_eq {V row : List Int} {S : Int} (h : row.length = V.length) : costOf V S V.length row = csum V.sum S row V := cost_list row V h

theorem allRows_mem : ∀ (p s : Nat) (row : List Int), row.length = p + 1 → (∀ x ∈ row, 0 ≤ x) → row.sum = (s : Int) → row ∈ allRows p s
  | 0, s, row, hl, hp, hs => by
    match row, hl with
    | [x], _ => simp at hs; simp [allRows, hs]
  | p + 1, s, row, hl, hp, hs => by
    match row, hl with
    | x :: xs, hl =>
      rw [List.sum_cons] at hs
      have hx := hp x List.mem_cons_self
      have hxs : ∀ y ∈ xs, 0 ≤ y := fun y hy => hp y (List.mem_cons_of_mem _ hy)
      have hsum : 0 ≤ xs.sum := by
        clear hs hl hp hx
        induction xs with
        | nil => simp
        | cons y r ih => rw [List.sum_cons]; have := hxs y List.mem_cons_self; have := ih fun z hz => hxs z (List.mem_cons_of_mem _ hz); omega
      simp only [allRows, List.mem_flatMap, List.mem_map]
      refine ⟨x.toNat, List.mem_range.mpr (by omega), xs, allRows_mem p _ xs (by simpa using hl) hxs (by omega), ?_⟩
      rw [Int.toNat_of_nonneg hx]
theorem allRows_sum : ∀ (p s : Nat) (row : List Int), row ∈ allRows p s → row.sum = (s : Int)
  | 0, s, row, h => by simp [allRows] at h; simp [h]
  | p + 1, s, row, h => by
    simp only [allRows, List.mem_flatMap, List.mem_map] at h
    obtain ⟨f, hf, r, hr, rfl⟩ := h
    have hf' := List.mem_range.mp hf
    have := allRows_sum p _ r hr
    rw [List.sum_cons]; omega
theorem allRows_nodup : ∀ (p s : Nat), (allRows p s).Nodup
  | 0, s => by simp [allRows]
  | p + 1, s => by
    unfold List.Nodup
    simp only [allRows]
    rw [List.pairwise_flatMap]
    refine ⟨fun f _ => ?_, ?_⟩
    · rw [List.pairwise_map]
      exact (allRows_nodup p (s - f)).imp fun h e => h (List.cons.inj e).2
    · refine List.nodup_range.imp fun {a b} hab x hx y hy e => ?_
      obtain ⟨r, _, rfl⟩ := List.mem_map.mp hx
      obtain ⟨r', _, rfl⟩ := List.mem_map.mp hy
      have := (List.cons.inj e).1
      omega
theorem filter_one {α : Type} {a : α} {q : α → Bool} : ∀ (l : List α), l.Nodup → a ∈ l → (∀ x ∈ l, q x = true ↔ x = a) → l.filter q = [a]
  | [], _, h, _ => nomatch h
  | x :: r, hn, hm, hq => by
    obtain ⟨h1, h2⟩ := List.nodup_cons.mp hn
    rcases List.mem_cons.mp hm with rfl | hm
    · rw [List.filter_cons_of_pos ((hq a List.mem_cons_self).mpr rfl)]
      rw [List.filter_eq_nil_iff.mpr fun y hy hqy => h1 ((hq y (List.mem_cons_of_mem _ hy)).mp hqy ▸ hy)]
    · have hx : ¬ q x = true := fun e => h1 ((hq x List.mem_cons_self).mp e ▸ hm)
      rw [List.filter_cons_of_neg hx]
      exact filter_one r h2 hm fun y hy => hq y (List.mem_cons_of_mem _ hy)
theorem two_len {α : Type} {a b : α} : ∀ {l : List α}, a ∈ l → b ∈ l → a ≠ b → 1 < l.length
  | [], h, _, _ => nomatch h
  | [x], h, h', n => absurd ((List.mem_singleton.mp h).trans (List.mem_singleton.mp h').symm) n
  | _ :: _ :: _, _, _, _ => by simp
theorem fdiv_nn {v S T : Int} (hv : 0 ≤ v) (hS : 1 ≤ S) (hT : 0 < T) : 0 ≤ Int.fdiv (v * S) T := Int.fdiv_nonneg (Int.mul_nonneg hv (by omega)) (by omega)
theorem all2_nn {T S c : Int} (hS : 1 ≤ S) (hT : 0 < T) : ∀ {os vs : List Int}, (∀ v ∈ vs, 0 ≤ v) → All2 (Fair T S c) os vs → ∀ x ∈ os, 0 ≤ x
  | [], [], _, _, _, h => nomatch h
  | o :: os, v :: vs, hv, h, x, hx => by
    rcases List.mem_cons.mp hx with rfl | hx
    · have := fdiv_nn (hv v List.mem_cons_self) hS hT
      rcases h.1 with h | h <;> omega
    · exact all2_nn hS hT (fun y hy => hv y (List.mem_cons_of_mem _ hy)) h.2 x hx
  | [], _ :: _, _, h, _, _ => h.elim
  | _ :: _, [], _, h, _, _ => h.elim

theorem lr_untied {V : List Int} {S M : Int} {n p : Nat} {rows best : List (List Int)} {out : List Int} (hbest : best = rows.filter fun r => decide (costOf V S n r = M)) (hM1 : M ∈ List.map (fun i => costOf V S n (rows.getD i [])) (List.range rows.length))
    (hM2 : ∀ a, a ∈ List.map (fun i => costOf V S n (rows.getD i [])) (List.range rows.length) → M ≤ a) (hrows : rows = allRows p S.toNat) (hn : n = V.length) (hp : V.length = p + 1) (hT : 0 < V.sum) (hS : 1 ≤ S) (hpos : ∀ v ∈ V, 0 ≤ v) (h : LrOut V S out false) : best = [out] := by
  subst hn
  rw [map_range_getD (fun r => costOf V S V.length r) [] rows] at hM1 hM2
  obtain ⟨c, d⟩ := lr_d h hT
  have hA : All2 (fun o v => (o = Int.fdiv (v * S) V.sum ∧ Int.fmod (v * S) V.sum < c) ∨ (o = Int.fdiv (v * S) V.sum + 1 ∧ c ≤ Int.fmod (v * S) V.sum)) out V := All2.of_get d.len fun i hi => by
    rcases d.elt i hi with e | e
    · rcases Int.lt_or_le (Int.fmod (V.getD i 0 * S) V.sum) c with q | q
      · exact Or.inl ⟨e, q⟩
      · exact Or.inr ⟨d.all rfl i hi q, q⟩
    · exact Or.inr e
  have hnn : ∀ x ∈ out, 0 ≤ x := by
    refine all2_nn (T := V.sum) (S := S) (c := c) hS hT hpos (All2.of_get d.len fun i hi => ?_)
    rcases d.elt i hi with e | e
    · rcases Int.lt_or_le (Int.fmod (V.getD i 0 * S) V.sum) c with q | q
      · exact Or.inl ⟨e, by omega⟩
      · exact Or.inr ⟨d.all rfl i hi q, q⟩
    · exact Or.inr e
  have hout : out ∈ rows := by rw [hrows]; exact allRows_mem p _ out (by rw [d.len, hp]) hnn (by rw [d.sum]; omega)
  have hlen : ∀ r ∈ rows, r.length = V.length := fun r hr => by rw [hrows] at hr; rw [allRows_row _ _ _ hr, hp]
  have hsum : ∀ r ∈ rows, r.sum = S := fun r hr => by rw [hrows] at hr; rw [allRows_sum _ _ _ hr]; omega
  have hle : ∀ r ∈ rows, costOf V S V.length out ≤ costOf V S V.length r ∧ (costOf V S V.length out = costOf V S V.length r → r = out) := fun r hr => by
    have q := rows_strict (xs := r) d.one d.top hA (hlen r hr)
    rw [hsum r hr, d.sum, ← cost_eq d.len, ← cost_eq (hlen r hr)] at q
    exact ⟨by omega, fun e => q.2 (by omega)⟩
  have hMo : M = costOf V S V.length out := by
    obtain ⟨r, hr, e⟩ := List.mem_map.mp hM1
    have h1 := (hle r hr).1
    have h2 := hM2 _ (List.mem_map.mpr ⟨out, hout, rfl⟩)
    omega
  rw [hbest]
  refine filter_one rows (by rw [hrows]; exact allRows_nodup ..) hout fun r hr => ?_
  rw [decide_eq_true_iff, hMo]
  exact ⟨fun e => (hle r hr).2 e.symm, fun e => by rw [e]⟩

theorem lr_tied {V : List Int} {S M : Int} {n p : Nat} {rows best : List (List Int)} {out : List Int} (hbest : best = rows.filter fun r => decide (costOf V S n r = M)) (hM1 : M ∈ List.map (fun i => costOf V S n (rows.getD i [])) (List.range rows.length))
    (hM2 : ∀ a, a ∈ List.map (fun i => costOf V S n (rows.getD i [])) (List.range rows.length) → M ≤ a) (hrows : rows = allRows p S.toNat) (hn : n = V.length) (hp : V.length = p + 1) (hT : 0 < V.sum) (hS : 1 ≤ S) (hpos : ∀ v ∈ V, 0 ≤ v) (h : LrOut V S out true) : 1 < best.length := by
  subst hn
  rw [map_range_getD (fun r => costOf V S V.length r) [] rows] at hM1 hM2
  obtain ⟨c, d⟩ := lr_d h hT
  obtain ⟨t1, t2⟩ := d.tied rfl
  rw [rems_eq, List.countP_map] at t1 t2
  have hk : (0 : Int) ≤ S - (repsOf V S).sum := by omega
  obtain ⟨os, os', a, b, a', b', ne⟩ := pick2 (T := V.sum) (S := S) (c := c) V (S - (repsOf V S).sum).toNat (by
      have : (V.countP fun v => decide (c < Int.fmod (v * S) V.sum)) = V.countP ((fun x => decide (c < x)) ∘ fun x => Int.fmod (x * S) V.sum) := rfl
      omega) (by
      have : (V.countP fun v => decide (c ≤ Int.fmod (v * S) V.sum)) = V.countP ((fun x => decide (c ≤ x)) ∘ fun x => Int.fmod (x * S) V.sum) := rfl
      omega)
  rw [← reps_eq] at b b'
  have hlen : ∀ r ∈ rows, r.length = V.length := fun r hr => by rw [hrows] at hr; rw [allRows_row _ _ _ hr, hp]
  have hsum : ∀ r ∈ rows, r.sum = S := fun r hr => by rw [hrows] at hr; rw [allRows_sum _ _ _ hr]; omega
  have hin : ∀ ps : List Int, All2 (Fair V.sum S c) ps V → ps.sum = (repsOf V S).sum + (((S - (repsOf V S).sum).toNat : Nat) : Int) → ps ∈ best := fun ps q s => by
    have hps : ps.sum = S := by omega
    have hpm : ps ∈ rows := by rw [hrows]; exact allRows_mem p _ ps (by rw [q.len, hp]) (all2_nn hS hT hpos q) (by omega)
    have hle : ∀ r ∈ rows, costOf V S V.length ps ≤ costOf V S V.length r := fun r hr => by
      have w := rows_weak (xs := r) (Int.le_trans (by decide) d.one) d.top hT q (hlen r hr)
      rw [hsum r hr, hps, ← cost_eq q.len, ← cost_eq (hlen r hr)] at w
      omega
    rw [hbest, List.mem_filter]
    refine ⟨hpm, decide_eq_true ?_⟩
    obtain ⟨r, hr, e⟩ := List.mem_map.mp hM1
    have h1 := hle r hr
    have h2 := hM2 _ (List.mem_map.mpr ⟨ps, hpm, rfl⟩)
    omega
  exact two_len (hin os a b) (hin os' a' b') ne
end Mine
end PartPlain3
section PartLaw
open PySem PySem.W PySem.Calls PyProof.Rows
set_option maxRecDepth 100000
set_option maxHeartbeats 8000000
namespace Mine
local macro_rules | `(tactic| walk_at "CompSrc") => `(tactic| (refine Halt.go ?_))
local macro_rules | `(tactic| walk_at "CompEnd") => `(tactic| (refine Halt.go ?_))
local macro_rules | `(tactic| walk_at "CompSrcT") => `(tactic| (refine Halt.go ?_))
local macro_rules | `(tactic| walk_at "call builtin:min") => `(tactic| (refine Halt.go ?_))
local macro_rules | `(tactic| walk_at "UnrEnd") => `(tactic| (refine Halt.go ?_))
local macro_rules | `(tactic| walk_at "pyIter ref") => `(tactic| (refine Halt.go ?_))
local macro_rules | `(tactic| walk_at "call type:range") => `(tactic| (k_here; (rename Fr _ _ _ _ => F9); (rename News _ _ _ _ => N9); (with_unfolding_all refine range1_rows F9 N9 ?_); clear F9 N9; intro h' tk' t1' u1' v1' R' F' N' X'; clear X'))
local macro_rules | `(tactic| walk_at "MINE list") => `(tactic| first | with_reducible assumption | exact Fr.lst (by with_reducible assumption) (by with_reducible assumption) | exact News.isList (by with_reducible assumption) (by k_mem))
local macro_rules | `(tactic| walk_at "MINE ext") => `(tactic| ((rename Ext _ _ => hX9); (rename Fr _ _ _ _ => F9); (rename News _ _ _ _ => N9); (have F8 := Fr.keeps F9 hX9); (have N8 := News.grown N9 hX9); clear hX9; (try k_sweep)))
local macro_rules | `(tactic| walk_at "call ref") => `(tactic| (refine Halt.go ?_))
local macro_rules | `(tactic| walk_at "call ref") => `(tactic| (k_here; k_dflt (refine' cell_spec _ ?cl ?ci ?ca ?cb ?cc ?cd ?ce ?_ ?cX ?cT; (case cl => walk_at "MINE list"); (case ci => with_reducible assumption); (case ca => assumption); (case cb => omega); (case cc => omega); (case cd => ktr_room); (case ce => ktr_units); (case cX => k_in); (case cT => exact Top.keeps (by with_reducible assumption) (Fr.keep (by with_reducible assumption))); k_whole); intro c' t' h' tk' hc' hX'; walk_at "MINE ext"; (try dsimp only); (try k_fold)))
local macro_rules | `(tactic| walk_at "binaryOp FloorDiv int int") => `(tactic| (refine floordiv_int (by omega) ?_ (Or.inl (noPy (by omega) (by omega)))))
local macro_rules | `(tactic| walk_at "binaryOp Mod int int") => `(tactic| (refine Halt.go ?_))
local macro_rules | `(tactic| walk_at "eval Call") => `(tactic| (k_dflt (refine Call_ ?_)))
local macro_rules | `(tactic| walk_at "MINE idx") => `(tactic| ((try simp only [List.length_map, List.length_range, List.size_toArray]); omega))
local macro_rules | `(tactic| walk_at "subscriptTail Name Name ref int") => `(tactic| (k_here; first
  | (refine' item_at ?k1 ?k2 ?k3 ?k4 ?_ ?k6; (case k1 => walk_at "MINE list"); (case k4 => with_reducible assumption); (case k2 => omega); (case k3 => omega); (case k6 => with_unfolding_all rfl); k_whole)
  | (refine' item_anyK ?k1 ?k2 ?k3 ?k4 ?k5 ?_ ?k6; (case k1 => walk_at "MINE list"); (case k2 => with_reducible assumption); (case k3 => omega); (case k4 => walk_at "MINE idx"); (case k5 => omega); (case k6 => with_unfolding_all rfl); k_whole; intro _)))
local macro_rules | `(tactic| walk_at "setItem ref int int") => `(tactic| (k_here; (refine' ksa_set ?k1 ?k2 ?k3 ?k4 ?k5 ?k6 ?k7 ?_; (case k1 => k_asm); (case k2 => k_asm); (case k3 => k_upd); (case k4 => with_reducible assumption); (case k5 => omega); (case k6 => walk_at "MINE idx"); (case k7 => omega); k_whole); intro h' F' N' hi' hl' hs'; (try k_sweep)))
theorem news_off {h₀ h : Heap} {L r : Addr} {news : List (Addr × Obj)} (N : News h₀ L h news) (hr : h.get? r = none) : ∀ p ∈ news, @Ne Nat p.1 r := fun p hp e => by
  have h1 := (N p hp).1
  have e' : p.1 = r := e
  rw [e', hr] at h1; cases h1
theorem set_bounds {V : List Int} (h : ∀ x ∈ V, 0 ≤ x ∧ x < 0 + 10 ^ 12) (k : Nat) {v : Int} (hv : 0 ≤ v ∧ v < 0 + 10 ^ 12) : ∀ x ∈ V.set k (v + 1), 0 ≤ x ∧ x ≤ 10 ^ 12 := fun x hx => by
  rcases List.mem_or_eq_of_mem_set hx with h1 | h1
  · have := h x h1; omega
  · omega
theorem getD_bounds {V : List Int} (h : ∀ x ∈ V, 0 ≤ x ∧ x < 0 + 10 ^ 12) (k : Nat) (hk : k < V.length) : 0 ≤ V.getD k 0 ∧ V.getD k 0 < 0 + 10 ^ 12 := by
  simp only [List.getD_eq_getElem?_getD, List.getElem?_eq_getElem hk, Option.getD_some]
  exact h _ (List.getElem_mem hk)
def BoxOff (B : Nat) (RL : List (Addr × Obj)) : Prop := ∀ q ∈ RL, B + 1 > q.1 ∨ B + 7 < q.1
theorem BoxOff.ne {B c : Nat} {RL : List (Addr × Obj)} (h : BoxOff B RL) (h1 : B + 1 ≤ c) (h2 : c ≤ B + 7) : ∀ q ∈ RL, q.1 ≠ c := fun q hq e => by
  have := h q hq
  have e' : @Eq Nat q.1 c := e
  omega
theorem allRows_some : ∀ p s, ∃ r, r ∈ allRows p s
  | 0, s => ⟨_, List.mem_singleton.mpr rfl⟩
  | p + 1, s => by
    obtain ⟨r, hr⟩ := allRows_some p (s - 0)
    exact ⟨_, List.mem_flatMap.mpr ⟨0, List.mem_range.mpr (Nat.succ_pos _), List.mem_map.mpr ⟨r, hr, rfl⟩⟩⟩
theorem allRows_ne (p s : Nat) : 0 < (allRows p s).length := let ⟨_, h⟩ := allRows_some p s; List.length_pos_of_mem h
theorem allRows_bd : ∀ p s, ∀ r ∈ allRows p s, ∀ x ∈ r, 0 ≤ x ∧ x ≤ (s : Int)
  | 0, s, r, h, x, hx => by simp [allRows] at h; subst h; simp at hx; omega
  | p + 1, s, r, h, x, hx => by
    simp only [allRows, List.mem_flatMap, List.mem_map] at h
    obtain ⟨f, hf, r', h', rfl⟩ := h
    have hf' := List.mem_range.mp hf
    rcases List.mem_cons.mp hx with rfl | hx
    · omega
    · have := allRows_bd p _ r' h' x hx
      omega
theorem cost_bits {V row : List Int} {S P : Int} {s j : Nat} (hVb : ∀ x ∈ V, 0 ≤ x ∧ x ≤ 10 ^ 12) (hVhi : V.sum ≤ 10 ^ 12 * (V.length : Int)) (hVl : V.length = P.toNat) (hP : P ≤ 4) (hS1 : 1 ≤ S) (hS2 : S ≤ 6)
    (hr : ∀ x ∈ row, 0 ≤ x ∧ x ≤ (s : Int)) (hs : s ≤ 6) (hs' : j < V.length ∧ j < row.length ∧ 0 < V.sum) : -(2 ^ 64) < row.getD j 0 * V.sum - V.getD j 0 * S ∧ row.getD j 0 * V.sum - V.getD j 0 * S < 2 ^ 64 := by
  have h1 : 0 ≤ row.getD j 0 ∧ row.getD j 0 ≤ (s : Int) := by
    rw [List.getD_eq_getElem?_getD, List.getElem?_eq_getElem hs'.2.1, Option.getD_some]; exact hr _ (List.getElem_mem _)
  have h2 : 0 ≤ V.getD j 0 ∧ V.getD j 0 ≤ 10 ^ 12 := by
    rw [List.getD_eq_getElem?_getD, List.getElem?_eq_getElem hs'.1, Option.getD_some]; exact hVb _ (List.getElem_mem _)
  have h3 : row.getD j 0 * V.sum ≤ 6 * V.sum := Int.mul_le_mul_of_nonneg_right (by omega) (by omega)
  have h4 : 0 ≤ row.getD j 0 * V.sum := Int.mul_nonneg h1.1 (by omega)
  have h5 : V.getD j 0 * S ≤ V.getD j 0 * 6 := Int.mul_le_mul_of_nonneg_left (by omega) (by omega)
  have h6 : 0 ≤ V.getD j 0 * S := Int.mul_nonneg h2.1 (by omega)
  omega
theorem off1_memN {D : Addr} {l : List (Addr × Obj)} (h : LCg.Off1 D l) : ∀ p ∈ l, @Ne Nat p.1 D := off1_mem h
local macro_rules | `(tactic| walk_at "binaryOp Mult int int") => `(tactic| first | (with_reducible refine mul_int ?_) | refine Halt.go ?_)
local macro_rules | `(tactic| k_mem) => `(tactic| assumption)
local macro_rules | `(tactic| k_all) => `(tactic| (refine' BoxOff.ne ?bxa ?bxb ?bxc; (case bxa => with_reducible assumption); (case bxb => omega); (case bxc => omega)))
local macro_rules | `(tactic| walk_at "eval ListComp") => `(tactic| (k_here; lct_look; k_dflt (refine LCt.ListComp_T (F₀ := by k_asm) (by with_unfolding_all rfl) (by decide) (by rfl) (by decide) (by rfl) ?_)))
local macro_rules | `(tactic| walk_at "exec Assign cons ListComp") => `(tactic| (k_here; lct_look; k_dflt (refine LCt.Assign_ListComp_T (F₀ := by k_asm) (by rfl) (by with_unfolding_all rfl) (by with_unfolding_all rfl) (by decide) (by rfl) (by decide) (by rfl) (by rfl) (by rfl) ?_)))
local macro_rules | `(tactic| walk_at "call builtin:len") => `(tactic| (k_here; (with_reducible show wpAny _ _ (call (Value.builtin "len") [Value.ref _]) _ _ _); refine Halt.go ?_))
theorem ne_same {prog : Program} {w : World} {A : Around} {E : Value → Shared → Prop} {s : Shared} {a b : Addr} {vs us : List Value} {ns : List Int} {Q : Value → Shared → Prop} (hl : s.heap.IsList a vs.toArray) (hi : IntsAre vs ns) (hl' : s.heap.IsList b us.toArray) (hi' : IntsAre us ns) (hu : A.units + 64 < cLine)
    (h : Q (.bool false) s) : wpAny (model prog w) A (compareOp .NotEq (.ref a) (.ref b)) Q E s :=
  ne_intsK hl hi hl' hi' hu (by rw [decide_eq_true rfl]; exact h)
theorem turn_root {h₀ h g₂ h' : Heap} {L : Addr} {m : Str → Option Value} {news : List (Addr × Obj)} (F : Fr h₀ L h m) (N : News h₀ L h news) (T : KtsTurn [L] h g₂) (hx : Ext g₂ h') : Fr h₀ L h' m ∧ News h₀ L h' news := by
  have nL : h₀.get? L = none := kts_self F
  refine ⟨⟨?_, fun b o e => hx _ _ (T.other b o (F.keep b o e) fun q => ?_), F.above⟩, fun p hp => ⟨hx _ _ (T.other _ _ (N p hp).1 fun q => ?_), (N p hp).2⟩⟩
  · obtain ⟨o, es, ep, ho, hd, hk, hfnd⟩ := F.ns
    obtain ⟨sl, hs⟩ := T.up ho
    exact ⟨_, es, ep, hx _ _ hs, hd, hk, hfnd⟩
  · rw [List.mem_singleton.mp q, nL] at e; cases e
  · exact (N p hp).2.1 (List.mem_singleton.mp q)
local macro_rules | `(tactic| walk_at "subscriptTail Name Constant ref int") => `(tactic| (k_here; (refine' item_at ?k1 ?k2 ?k3 ?k4 ?_ ?k6; (case k1 => walk_at "MINE list"); (case k4 => exact rfl); (case k2 => decide); (case k3 => decide); (case k6 => with_unfolding_all rfl); k_whole)))
local macro_rules | `(tactic| walk_at "compareOp NotEq ref ref") => `(tactic| (k_here; (with_unfolding_all refine' ne_same ?k1 ?k2 ?k3 ?k4 ?k5 ?_; (case k1 => walk_at "MINE list"); (case k2 => with_reducible assumption); (case k3 => walk_at "MINE list"); (case k4 => with_reducible assumption); (case k5 => units_room); k_whole)))
theorem law_holds : PySem.Challenge.rw_ab5001_01.Holds := Mine.hd (by
  k_go0
  all_goals try k_fold
  rename_i w s₀ s₁ mg mb G Y fa o pm doc ho hg X MX V GL T Bt TE TW x1 x2 M x3 x4 hcd ns hs hlay0 hL1 hr1 hl2 x5 x6 l vs x7 hL ra w1 r0 hI hr hcond x8 K0 hD h₁ tk₁ F oLe oCo oRo oTo oSe oVo oPa d1 d2 d3 d4 d5 d6 d7 N0 X0
  have hlen : ns.length ≤ 100 := by omega
  clear hlay0 hr1 hl2 ra w1 hr x8 hD X0 hcd M GL V MX Bt TE TW Y G ho
  k_steps
  -- parties
  refine Halt.intro ?_
  rename_i c0 t0 h2 tk2 hc0 F2 N2
  refine mod_int' (by decide) ?_
  have hf1 := Int.fmod_nonneg_of_pos c0 (show (0 : Int) < 3 by decide)
  have hf2 := Int.fmod_lt_of_pos c0 (show (0 : Int) < 3 by decide)
  obtain ⟨M, hM⟩ : ∃ M, M = c0.fmod 3 := ⟨_, rfl⟩
  rw [← hM] at hf1 hf2 ⊢
  clear hM hc0 c0
  k_steps
  refine Halt.intro ?_
  obtain ⟨P, hP⟩ : ∃ P, P = 2 + M := ⟨_, rfl⟩
  have hP1 : 2 ≤ P := by omega
  have hP2 : P ≤ 4 := by omega
  rename _ = Data.cell (some (Value.int (2 + M) _)) => dPa
  rw [← hP] at dPa ⊢
  clear hP hf1 hf2 M
  rename Fr _ _ _ _ => F3
  rename News _ _ _ _ => N3
  refine' votes_spec w (Fr.lst F3 hL) hI hlen (by omega) (by omega) (by decide) (by decide) ?vdp ?vun ?_ ?vX ?vT
  case vdp => decide
  case vun => decide
  case vX => exact X.keeps F3.keep
  case vT => exact T.keeps F3.keep
  intro Dv ys0 n0 V0 h4 tk4 hext hr hg hV0 hV0l hV0b
  have bDv : s₁.heap.objs.size + 1 > Dv ∨ s₁.heap.objs.size + 7 < Dv := by
    have o := news_off N3 hr
    simp only [List.forall_mem_cons] at o
    omega
  have F4 := F3.keeps hext
  have N4 := news_add F3 N3 hext hr hg
  clear hext hr hg F3 N3
  dsimp only
  k_unmd
  k_fold
  k_steps
  -- place
  refine Halt.intro ?_
  rename_i oVv dVv c1 t1 h5 tk5 hc1 F5 N5
  refine mod_int' (by omega) ?_
  have hf1 := Int.fmod_nonneg_of_pos (c1.fdiv 4) (show (0 : Int) < P by omega)
  have hf2 := Int.fmod_lt_of_pos (c1.fdiv 4) (show (0 : Int) < P by omega)
  obtain ⟨k, hk⟩ : ∃ k, k = (c1.fdiv 4).fmod P := ⟨_, rfl⟩
  rw [← hk] at hf1 hf2 ⊢
  clear hk hc1 c1
  clear d6 d7
  k_steps
  -- seats
  refine Halt.intro ?_
  rename_i t2 h6 hV hVl hVs c2 t3 h7 tk7 hc2 F7 N7
  refine mod_int' (by decide) ?_
  have hf3 := Int.fmod_nonneg_of_pos c2 (show (0 : Int) < 6 by decide)
  have hf4 := Int.fmod_lt_of_pos c2 (show (0 : Int) < 6 by decide)
  obtain ⟨M, hM⟩ : ∃ M, M = c2.fmod 6 := ⟨_, rfl⟩
  rw [← hM] at hf3 hf4 ⊢
  clear hM hc2 c2
  have hgk := getD_bounds hV0b (k.toNat) (by omega)
  have hVb := set_bounds hV0b (k.toNat) hgk
  have hs0 := sum_lo (a := 0) fun x hx => (hV0b x hx).1
  generalize V0.set k.toNat (V0.getD k.toNat 0 + 1) = V at hV hVl hVs hVb
  have hV1 : 0 < V.sum := by omega
  have hVl' : V.length = P.toNat := by omega
  have hVhi := sum_hi (a := 10 ^ 12) fun x hx => (hVb x hx).2
  have hV2 : V.sum < 2 ^ 60 := by omega
  clear hVs hVl hs0 hgk hV0 hV0b hV0l
  k_steps
  -- rows
  refine Halt.intro ?_
  rename_i t4 h8 oTt F8 N8 dTt
  obtain ⟨S, hS⟩ : ∃ S, S = 1 + M := ⟨_, rfl⟩
  have hS1 : 1 ≤ S := by omega
  have hS2 : S ≤ 6 := by omega
  rename _ = Data.cell (some (Value.int (1 + M) _)) => dSe
  rw [← hS] at dSe ⊢
  clear hS hf3 hf4 M
  obtain ⟨p, hp⟩ : ∃ p : Nat, P = (p : Int) + 1 := ⟨(P - 1).toNat, by omega⟩
  refine' all_spec w p hp (by omega) (by omega) hS2 ?adp ?aun ?_ (X.keeps F8.keep) (T.keeps F8.keep)
  case adp => exact Nat.lt_of_le_of_lt (Nat.add_le_add_left (show p ≤ 3 by omega) _) (by decide)
  case aun => exact Nat.lt_of_le_of_lt (Nat.add_le_add_right (Nat.add_le_add_left (Nat.mul_le_mul_left 8 (show p ≤ 3 by omega)) _) _) (by decide)
  intro Dr refs nr RL h9 tk9 hext hr hg hRL hrows
  have o8 := news_off N8 hr
  have bDr : s₁.heap.objs.size + 1 > Dr ∨ s₁.heap.objs.size + 7 < Dr := by
    simp only [List.forall_mem_cons] at o8
    omega
  have hvr : Dv ≠ Dr := o8 (Dv, _) (by k_mem)
  have bRL : BoxOff s₁.heap.objs.size RL := fun q hq => by
    have o9 := news_off N8 (hRL q hq).2
    simp only [List.forall_mem_cons] at o9
    omega
  have vRL : ∀ q ∈ RL, q.1 ≠ Dv := fun q hq => Ne.symm (news_off N8 (hRL q hq).2 (Dv, _) (by k_mem))
  have F9 := F8.keeps hext
  have N9 := news_seg (RL := (Dr, lob refs nr) :: RL) F8 N8 hext (fun q hq => by
    rcases List.mem_cons.mp hq with rfl | hq
    · exact ⟨hg, hr⟩
    · exact hRL q hq)
  clear hext hr hg hRL F8 N8 o8
  simp only [List.cons_append, List.nil_append] at N9
  dsimp only
  k_unmd
  k_fold
  k_steps
  -- costs
  rename Fr _ _ _ _ => F10
  rename News _ _ _ _ => N10
  rename _ = Data.cell (some (Value.ref Dr)) => dRo
  have hrl : refs.length ≤ 84 := by rw [hrows.length]; exact allRows_len p (by omega) _ (by omega)
  refine comp_cell F10 (fun i => costOf V S P.toNat ((allRows p S.toNat).getD i [])) (by with_unfolding_all rfl) (by rfl) (by decide) (fun h => rfl) (fun b => rfl) (fun R C => by with_unfolding_all rfl) ?_
  k_steps
  refine CellSrc.intro (k := nr) rfl F10 N10 (show (Dr, lob refs nr) ∈ _ by simp only [List.mem_cons, true_or, or_true]) (by rw [List.size_toArray, sizeLine_eq]; omega) (fun hh => ?_) ?_
  · clear F10 N10
    intro i v I oI C oC R oR D ys h tk E' hv hR F N
    obtain ⟨a, xs, na, row, rfl, hmr, hxs, hrow⟩ := hrows.get i v (by simpa using hv)
    have hrowl : row.length = p + 1 := allRows_row _ _ _ (List.mem_of_getElem? hrow)
    dsimp only
    k_steps
    refine Halt.intro ?_
    rename IsRange _ _ _ _ _ _ _ _ => R4
    rename Fr _ _ _ _ => F4
    rename News _ _ _ _ => N4
    refine LCg.CompSrc.range (n := P.toNat) rfl F4 N4 R4 (small_one (by omega) (by omega) (by omega) (by omega)) (by rw [rangeSize_nat]; omega) (by rw [sizeLine_eq]; omega) ?_
    intro g
    refine rest_ints (fun i => (row.getD i 0 * V.sum - V.getD i 0 * S) * (row.getD i 0 * V.sum - V.getD i 0 * S)) ?_ ?_
    · clear F4 N4 R4
      intro j v ys2 I2 oI2 C2 oC2 D2 m₂ h' tk' E2 hin hv2 hC2 hx2 F N off ne
      obtain ⟨t9, hv2⟩ := hv2
      rw [Int.zero_add] at hv2
      subst hv2
      obtain ⟨hb1, hb2⟩ := cost_bits (j := j) hVb hVhi hVl' hP2 hS1 hS2 (allRows_bd _ _ _ (List.mem_of_getElem? hrow)) (by omega) (by omega)
      k_steps
      refine Halt.intro ?_
      refine mul_int ?_ (IntMulOk.of_left (intBits_le_64 hb1 hb2))
      clear hb1 hb2
      rename Fr _ _ _ _ => F3
      rename News _ _ _ _ => N3
      k_steps
      refine Halt.intro ?_
      refine end_none F3 (by exact N3) off trivial ⟨rfl, _, rfl⟩
    · clear F4 N4 R4
      intro rs hrs D2 h' tk' F2 N2 o2
      dsimp only
      k_steps
      rename Fr _ _ _ _ => F5
      rename News _ _ _ _ => N5
      have ec : costOf V S P.toNat ((allRows p S.toNat).getD i []) = ((List.range P.toNat).map fun i => (row.getD i 0 * V.sum - V.getD i 0 * S) * (row.getD i 0 * V.sum - V.getD i 0 * S)).sum := by
        rw [List.getD_eq_getElem?_getD, hrow]; rfl
      rw [ec]
      exact CellEnd.intro F5 N5 (fun q hq => List.mem_cons_of_mem _ hq)
  · intro ys D h tk hys F N o1
    clear F10 N10
    have bD : s₁.heap.objs.size + 1 > D ∨ s₁.heap.objs.size + 7 < D := by
      have o9 := off1_memN o1
      simp only [List.forall_mem_cons] at o9
      omega
    have hDv : @Ne Nat Dv D := off1_memN o1 (Dv, _) (by k_mem)
    have hDr : @Ne Nat Dr D := off1_memN o1 (Dr, lob refs nr) (by simp only [List.mem_cons, true_or, or_true])
    have hRD : ∀ q ∈ RL, q.1 ≠ D := fun q hq => off1_mem o1 q (by simp only [List.mem_cons, hq, or_true])
    clear o1
    dsimp only
    k_steps
    -- least
    refine Halt.intro ?_
    rename Fr _ _ _ _ => F11
    rename News _ _ _ _ => N11
    rename _ = Data.cell (some (Value.ref D)) => dCo
    obtain ⟨rows, hrowse⟩ : ∃ rows, rows = allRows p S.toNat := ⟨_, rfl⟩
    have hrl2 : refs.length = rows.length := by rw [hrowse]; exact hrows.length
    have hrne : 0 < rows.length := by rw [hrowse]; exact allRows_ne _ _
    rw [← hrowse] at hrows hys
    rw [List.size_toArray, hrl2] at hys
    rw [hrl2] at hrl
    have hcl := hys.length
    rw [List.length_map, List.length_range] at hcl
    refine kso_min F11 N11 (News.isList (n := ys.length) N11 (show (D, LCg.lst ys) ∈ _ by simp only [List.mem_cons, true_or])) hys (by rw [List.length_map, List.length_range]; exact hrne) rfl ?_
    clear F11 N11
    intro h12 M t12 tk12 F12 N12 hM1 hM2
    k_steps
    -- best
    refine Halt.intro ?_
    rename Fr _ _ _ _ => F13
    rename News _ _ _ _ => N13
    rename _ = Data.cell (some (Value.int M t12)) => dLe
    refine len_list (items := refs.toArray) (News.isList N13 (show (Dr, lob refs nr) ∈ _ by simp only [List.mem_cons, true_or, or_true])) (by rw [List.size_toArray]; omega) ?_
    rw [show refs.toArray.size = rows.length from by rw [List.size_toArray, hrl2]]
    k_steps
    refine Halt.intro ?_
    rename IsRange _ _ _ _ _ _ _ _ => R14
    rename Fr _ _ _ _ => F14
    rename News _ _ _ _ => N14
    refine LCt.CompSrcT.range (n := rows.length) rfl F14 N14 R14 (small_one (by omega) (by omega) (by omega) (by omega)) (by rw [rangeSize_nat]; omega) (by rw [sizeLine_eq]; omega) ?_
    intro g14
    refine rest_genT (fun i ys => RowsAt RL ys ((rows.take i).filter fun r => decide (costOf V S P.toNat r = M))) (by rw [List.take_zero]; exact RowsAt.nil) ?_ ?_
    · clear F14 N14 R14
      rintro j v zs I2 oI2 C2 oC2 D2 m₂ h' tk' E2 hjn ⟨tj, hv⟩ hJ hC2 hx2 F N off ne
      rw [Int.zero_add] at hv
      subst hv
      have hcj : (List.map (fun i => costOf V S P.toNat (rows.getD i [])) (List.range rows.length)).getD (j : Int).toNat 0 = costOf V S P.toNat (rows.getD j []) := by
        rw [Int.toNat_natCast, List.getD_eq_getElem?_getD, List.getElem?_map, List.getElem?_range hjn]; rfl
      obtain ⟨rv, hrv⟩ : ∃ rv, refs[(j : Int).toNat]? = some rv := ⟨refs[j]'(by omega), List.getElem?_eq_getElem _⟩
      obtain ⟨a, xs, na, row, rfl, hmr, hxs, hrow⟩ := hrows.get j rv hrv
      have hrd : rows.getD j [] = row := by rw [List.getD_eq_getElem?_getD, hrow]; rfl
      rw [hrd] at hcj
      k_steps
      · refine Halt.intro ?_
        rename _ = M => heq
        rw [hcj] at heq
        refine end_none F (by exact N) off trivial ⟨rfl, ?_⟩
        rw [List.take_add_one, hrow, Option.toList_some, List.filter_append, List.filter_cons_of_pos (by simpa using heq), List.filter_nil]
        exact RowsAt.append hJ (.cons hmr hxs .nil)
      · refine Halt.intro ?_
        rename _ ≠ M => heq
        rw [hcj] at heq
        refine end_none F (by exact N) off trivial ⟨rfl, ?_⟩
        rw [List.take_add_one, hrow, Option.toList_some, List.filter_append, List.filter_cons_of_neg (by simpa using heq), List.filter_nil, List.append_nil]
        exact hJ
    · clear F14 N14 R14
      intro zs hzs Db hb tkb Fb Nb o1
      rw [List.take_length] at hzs
      have oN := off1_memN o1
      have bDb : s₁.heap.objs.size + 1 > Db ∨ s₁.heap.objs.size + 7 < Db := by
        have o9 := oN
        simp only [List.forall_mem_cons] at o9
        omega
      have hDbv : @Ne Nat Dv Db := oN (Dv, _) (by k_mem)
      have hDbD : @Ne Nat D Db := oN (D, _) (by k_mem)
      have hDbr : @Ne Nat Dr Db := oN (Dr, lob refs nr) (by simp only [List.mem_cons, true_or, or_true])
      have hRDb : ∀ q ∈ RL, q.1 ≠ Db := fun q hq => off1_mem o1 q (by simp only [List.mem_cons, hq, or_true])
      clear o1 oN
      obtain ⟨best, hbest⟩ : ∃ best, best = rows.filter fun r => decide (costOf V S P.toNat r = M) := ⟨_, rfl⟩
      rw [← hbest] at hzs
      have hzl := hzs.length
      have hbl : best.length ≤ 84 := by rw [hbest]; exact Nat.le_trans (List.length_filter_le ..) hrl
      dsimp only
      k_steps
      -- told
      refine Halt.intro ?_
      rename_i Dh nh h15 lDh h16 F16 N16
      have hV8 : V.length ≤ 8 := by omega
      have hVp : ∀ x ∈ V, 0 ≤ x := fun x hx => (hVb x hx).1
      have hVp1 : V.length = p + 1 := by omega
      refine' strict_spec w (News.isList N16 (by k_mem)) hV hV8 hS1 (by omega) hVp hV1 hV2 ?sdp ?sun ?sB ?sD ?s1 ?s2 X T
      case sdp => decide
      case sun => decide
      case sB => exact pushX K0 F16 rfl rfl
      case sD => exact dicts_push F16 rfl ktsDicts_nil
      case s2 =>
        intro outt gg h17 tk17 hlrt hturn hext
        obtain ⟨F17, N17⟩ := turn_root F16 N16 hturn hext
        clear F16 N16 hturn hext
        dsimp only
        k_unmd
        k_fold
        k_steps
        refine Halt.intro ?_
        rename Fr _ _ _ _ => F18
        rename News _ _ _ _ => N18
        refine' lr_spec2 w (News.isList N18 (by k_mem)) hV hV8 hS1 (by omega) hVp hV1 hV2 ?gdp ?gun ?gB ?_ ?gX ?gT
        case gdp => decide
        case gun => decide
        case gB => exact pushX K0 F18 rfl rfl
        case gX => exact X.keeps F18.keep
        case gT => exact T.keeps F18.keep
        intro r6 ys6 n6 out6 tie6 h18 tk18 hext hr hg hints hlr
        have F19 := F18.keeps hext
        have N19 := news_add F18 N18 hext hr hg
        clear hext hr hg F18 N18
        obtain ⟨q1, q2, q3⟩ := lr_quota hlr hV1 hS1 hVp
        dsimp only
        k_unmd
        k_fold
        k_steps
        refine Halt.intro ?_
        rename Fr _ _ _ _ => F20
        rename News _ _ _ _ => N20
        refine' iq_spec w (News.isList N20 (by k_mem)) hV (News.isList (a := r6) N20 (by k_mem)) hints (by omega) q1 q2 (by omega) (by omega) (by omega) hV2 q3 ?idp ?iun ?_ ?iX ?iT
        case idp => decide
        case iun => decide
        case iX => exact X.keeps F20.keep
        case iT => exact T.keeps F20.keep
        intro h20 tk20 hext
        have F21 := F20.keeps hext
        have N21 := News.grown N20 hext
        clear hext F20 N20
        dsimp only
        k_unmd
        k_fold
        k_steps
        -- len(best)
        refine Halt.intro ?_
        rename Fr _ _ _ _ => F22
        rename News _ _ _ _ => N22
        refine len_list (items := zs.toArray) (News.isList (n := zs.length) N22 (by k_mem)) (by rw [List.size_toArray, hzl]; exact Int.lt_of_le_of_lt (Int.ofNat_le.mpr hbl) (by decide)) ?_
        rw [show zs.toArray.size = best.length from by rw [List.size_toArray, hzl]]
        have htie : 1 < best.length := lr_tied hbest hM1 hM2 hrowse hVl'.symm hVp1 hV1 hS1 hVp hlrt
        have hgt : decide ((1 : Int) < (best.length : Int)) = true := decide_eq_true (Int.ofNat_lt.mpr htie)
        walk1
        walk1
        walk1
        rw [if_pos hgt]
        clear hgt
        k_steps
        refine Halt.intro ?_
        refine' gr_spec w (Fr.lst F22 hL) hI hlen ?zdp ?zun (pushX K0 F22 rfl rfl) (dicts_push F22 rfl ktsDicts_nil) ?_ X T
        case zdp => decide
        case zun => decide
        intro gz hz tkz hturn hext
        obtain ⟨Fz, Nz⟩ := turn_root F22 N22 hturn hext
        clear hturn hext F22 N22
        dsimp only
        try k_unmd
        try k_fold
        k_steps
        all_goals try wrow_close
      case s1 =>
        intro rb ysb nb outb h17 tk17 hext hr hg hib hlrb
        have F17 := F16.keeps hext
        have N17 := news_add F16 N16 hext hr hg
        clear hext hr hg F16 N16
        dsimp only
        k_unmd
        k_fold
        k_steps
        refine Halt.intro ?_
        rename Fr _ _ _ _ => F18
        rename News _ _ _ _ => N18
        refine' lr_spec2 w (News.isList N18 (by k_mem)) hV hV8 hS1 (by omega) hVp hV1 hV2 ?gdp ?gun ?gB ?_ ?gX ?gT
        case gdp => decide
        case gun => decide
        case gB => exact pushX K0 F18 rfl rfl
        case gX => exact X.keeps F18.keep
        case gT => exact T.keeps F18.keep
        intro r6 ys6 n6 out6 tie6 h18 tk18 hext hr hg hints hlr
        have F19 := F18.keeps hext
        have N19 := news_add F18 N18 hext hr hg
        clear hext hr hg F18 N18
        obtain ⟨q1, q2, q3⟩ := lr_quota hlr hV1 hS1 hVp
        dsimp only
        k_unmd
        k_fold
        k_steps
        refine Halt.intro ?_
        rename Fr _ _ _ _ => F20
        rename News _ _ _ _ => N20
        refine' iq_spec w (News.isList N20 (by k_mem)) hV (News.isList (a := r6) N20 (by k_mem)) hints (by omega) q1 q2 (by omega) (by omega) (by omega) hV2 q3 ?idp ?iun ?_ ?iX ?iT
        case idp => decide
        case iun => decide
        case iX => exact X.keeps F20.keep
        case iT => exact T.keeps F20.keep
        intro h20 tk20 hext
        have F21 := F20.keeps hext
        have N21 := News.grown N20 hext
        clear hext F20 N20
        dsimp only
        k_unmd
        k_fold
        k_steps
        -- len(best)
        refine Halt.intro ?_
        rename Fr _ _ _ _ => F22
        rename News _ _ _ _ => N22
        refine len_list (items := zs.toArray) (News.isList (n := zs.length) N22 (by k_mem)) (by rw [List.size_toArray, hzl]; exact Int.lt_of_le_of_lt (Int.ofNat_le.mpr hbl) (by decide)) ?_
        rw [show zs.toArray.size = best.length from by rw [List.size_toArray, hzl]]
        have hun : best = [outb] := lr_untied hbest hM1 hM2 hrowse hVl'.symm hVp1 hV1 hS1 hVp hlrb
        have hfree : out6 = outb := by
          cases tie6 with
          | true =>
            have := lr_tied hbest hM1 hM2 hrowse hVl'.symm hVp1 hV1 hS1 hVp hlr
            rw [hun] at this; exact absurd this (Nat.lt_irrefl 1)
          | false =>
            have := lr_untied hbest hM1 hM2 hrowse hVl'.symm hVp1 hV1 hS1 hVp hlr
            rw [hun] at this; exact (List.cons.inj this).1.symm
        have hgt : ¬ (decide ((1 : Int) < (best.length : Int)) = true) := by rw [hun]; show ¬ (decide ((1 : Int) < ((1 : Nat) : Int)) = true); decide
        walk1
        walk1
        walk1
        rw [if_neg hgt]
        clear hgt
        subst hfree
        clear hbest
        subst hun
        cases hzs with
        | cons hmb hxb hnil =>
        cases hnil
        k_steps
        refine Halt.intro ?_
        refine' gr_spec w (Fr.lst F22 hL) hI hlen ?zdp ?zun (pushX K0 F22 rfl rfl) (dicts_push F22 rfl ktsDicts_nil) ?_ X T
        case zdp => decide
        case zun => decide
        intro gz hz tkz hturn hext
        obtain ⟨Fz, Nz⟩ := turn_root F22 N22 hturn hext
        clear hturn hext F22 N22
        dsimp only
        try k_unmd
        try k_fold
        k_steps
        all_goals try wrow_close)
end Mine
end PartLaw
open PySem PySem.W PyProof.Rows
set_option maxRecDepth 100000 in
set_option maxHeartbeats 8000000 in
theorem PySem.Challenge.cw_ab5001_01_holds : PySem.Challenge.rw_ab5001_01.Holds := by
  exact Mine.law_holds
