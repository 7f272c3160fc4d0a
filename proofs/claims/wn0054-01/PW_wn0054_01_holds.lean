import PyProof.Rows.All
import Wide.All
import OpenK.AllK
import Wide.FinOn
import PySem.Challenge.RW_wn0054_01
set_option Elab.async false
set_option maxRecDepth 100000
local macro_rules | `(tactic| walk_at $s:str) => `(tactic| k_extra $s)
section
open PySem PySem.W PyProof.Rows PySem.Calls PySem.Spec PyProof.V
set_option maxHeartbeats 2000000
namespace Mine
section
variable {prog : Program} {w : World} {A : Around} {R : Result → Shared → Prop} {s : Shared}
theorem compLoop_any {elt : PySem.Expr} {gens : List Comprehension} {scope : Scope} {pos : Pos} {d : Nat} {it acc : Value} {env : Env} {target : PySem.Expr} {ip : Pos} {ifs : List PySem.Expr} {emit : Sem Unit} (I : Nat → Shared → Prop)
    (hturn : compTurn (.ListComp elt gens scope pos) d it acc env = (do
      standAt ip
      match ← pyNext it with
      | none => pure (.done .next)
      | some v =>
        letOwnedTupleGo target it v
        assign target env v
        let mut ok := true
        for c in ifs do
          if ok then ok ← isTrue c env (eval c env)
        if ok then
          emit
        again (.compLoop (.ListComp elt gens scope pos) d it acc env)))
    (turn : ∀ n s, I n s → wpAny (model prog w) A (pyNext it) (fun r s₁ => match r with
      | none => R (.ok .next) s₁
      | some v => wpAny (model prog w) A (letOwnedTupleGo target it v) (fun _ s₁' => wpAny (model prog w) A (assign target env v) (fun _ s₂ =>
          wpAny (model prog w) A (forIn ifs true fun c r => if r = true then do let ok ← isTrue c env (eval c env); pure (ForInStep.yield ok) else pure (ForInStep.yield r)) (fun ok s₃ =>
            if ok = true then wpAny (model prog w) A emit (fun _ s₅ => ∃ m, m < n ∧ I m s₅) (notedBy (model prog w) A env fun e s' => R (.error e) s') s₃
            else ∃ m, m < n ∧ I m s₃) (notedBy (model prog w) A env fun e s' => R (.error e) s') s₂) (notedBy (model prog w) A env fun e s' => R (.error e) s') s₁') (notedBy (model prog w) A env fun e s' => R (.error e) s') s₁) (notedBy (model prog w) A env fun e s' => R (.error e) s') s)
    (n : Nat) (h : I n s) :
    codeAny (model prog w) A (.compLoop (.ListComp elt gens scope pos) d it acc env) R s := by
  refine codeAny_loop rfl I (fun n s hI => ?_) n h
  show wpAny _ A ((compTurn (.ListComp elt gens scope pos) d it acc env).onRaise (fun x => do noteFrame x env; theTreesLotGoes x)) _ _ s
  refine wpAny_noted ?_
  rw [hturn]
  refine wpAny_bind (wpAny_standAt (wpAny_bind (wpAny_mono (turn n s hI) (fun r s₁ h₁ => ?_) fun _ _ h' => h')))
  cases r with
  | none => exact wpAny_pure h₁
  | some v =>
    refine wpAny_bind (wpAny_mono h₁ (fun _ s₁' h₁' => ?_) fun _ _ h' => h')
    refine wpAny_bind (wpAny_mono h₁' (fun _ s₂ h₂ => wpAny_bind (wpAny_mono h₂ (fun ok s₃ h₃ => ?_) fun _ _ h' => h')) fun _ _ h' => h')
    cases ok with
    | false => exact wpAny_pure ⟨rfl, h₃⟩
    | true => exact wpAny_bind (wpAny_mono h₃ (fun _ s₅ h₅ => wpAny_pure ⟨rfl, h₅⟩) fun _ _ h' => h')
theorem turn_one (elt target iter : PySem.Expr) (ifs : List PySem.Expr) (scope : Scope) (pos : Pos) (it acc : Value) (env : Env) :
    compTurn (.ListComp elt [⟨target, iter, ifs, 0⟩] scope pos) 0 it acc env = (do
      standAt iter.pos
      match ← pyNext it with
      | none => pure (.done .next)
      | some v =>
        letOwnedTupleGo target it v
        assign target env v
        let mut ok := true
        for c in ifs do
          if ok then ok ← isTrue c env (eval c env)
        if ok then
          (do let _ ← call (.builtin "list.append") [acc, ← eval elt env])
        again (.compLoop (.ListComp elt [⟨target, iter, ifs, 0⟩] scope pos) 0 it acc env)) := by rfl
theorem turn_out (elt target iter t2 it2 : PySem.Expr) (ifs if2 : List PySem.Expr) (scope : Scope) (pos : Pos) (it acc : Value) (env : Env) :
    compTurn (.ListComp elt [⟨target, iter, ifs, 0⟩, ⟨t2, it2, if2, 0⟩] scope pos) 0 it acc env = (do
      standAt iter.pos
      match ← pyNext it with
      | none => pure (.done .next)
      | some v =>
        letOwnedTupleGo target it v
        assign target env v
        let mut ok := true
        for c in ifs do
          if ok then ok ← isTrue c env (eval c env)
        if ok then
          let x ← eval it2 env
          standAt it2.pos
          let x ← foldedSetIterable it2 env x
          let _ ← runOwn (.compStart (.ListComp elt [⟨target, iter, ifs, 0⟩, ⟨t2, it2, if2, 0⟩] scope pos) 1 (← holding [x] (pyIter x)) acc env) env
        again (.compLoop (.ListComp elt [⟨target, iter, ifs, 0⟩, ⟨t2, it2, if2, 0⟩] scope pos) 0 it acc env)) := by rfl
theorem turn_in (elt target iter t2 it2 : PySem.Expr) (ifs if2 : List PySem.Expr) (scope : Scope) (pos : Pos) (it acc : Value) (env : Env) :
    compTurn (.ListComp elt [⟨t2, it2, if2, 0⟩, ⟨target, iter, ifs, 0⟩] scope pos) 1 it acc env = (do
      standAt iter.pos
      match ← pyNext it with
      | none => pure (.done .next)
      | some v =>
        letOwnedTupleGo target it v
        assign target env v
        let mut ok := true
        for c in ifs do
          if ok then ok ← isTrue c env (eval c env)
        if ok then
          (do let _ ← call (.builtin "list.append") [acc, ← eval elt env])
        again (.compLoop (.ListComp elt [⟨t2, it2, if2, 0⟩, ⟨target, iter, ifs, 0⟩] scope pos) 1 it acc env)) := by rfl
theorem compLoop_out {elt target iter t2 it2 : PySem.Expr} {ifs if2 : List PySem.Expr} {scope : Scope} {pos : Pos} {it acc : Value} {env : Env} (I : Nat → Shared → Prop)
    (hs : ∀ x, foldedSetIterable it2 env x = pure x)
    (turn : ∀ n s, I n s → wpAny (model prog w) A (pyNext it) (fun r s₁ => match r with
      | none => R (.ok .next) s₁
      | some v => wpAny (model prog w) A (letOwnedTupleGo target it v) (fun _ s₁' => wpAny (model prog w) A (assign target env v) (fun _ s₂ =>
          wpAny (model prog w) A (forIn ifs true fun c r => if r = true then do let ok ← isTrue c env (eval c env); pure (ForInStep.yield ok) else pure (ForInStep.yield r)) (fun ok s₃ =>
            if ok = true then wpAny (model prog w) A (eval it2 env) (fun x s₄ => wpAny (model prog w) A (pyIter x) (fun it' s₅ =>
              wpAny (model prog w) A (runOwn (.compStart (.ListComp elt [⟨target, iter, ifs, 0⟩, ⟨t2, it2, if2, 0⟩] scope pos) 1 it' acc env) env) (fun _ s₆ => ∃ m, m < n ∧ I m s₆) (notedBy (model prog w) A env fun e s' => R (.error e) s') s₅)
                (notedBy (model prog w) A env fun e s' => R (.error e) s') s₄) (notedBy (model prog w) A env fun e s' => R (.error e) s') s₃
            else ∃ m, m < n ∧ I m s₃) (notedBy (model prog w) A env fun e s' => R (.error e) s') s₂) (notedBy (model prog w) A env fun e s' => R (.error e) s') s₁') (notedBy (model prog w) A env fun e s' => R (.error e) s') s₁) (notedBy (model prog w) A env fun e s' => R (.error e) s') s)
    (n : Nat) (h : I n s) :
    codeAny (model prog w) A (.compLoop (.ListComp elt [⟨target, iter, ifs, 0⟩, ⟨t2, it2, if2, 0⟩] scope pos) 0 it acc env) R s := by
  refine codeAny_loop rfl I (fun n s hI => ?_) n h
  show wpAny _ A ((compTurn (.ListComp elt [⟨target, iter, ifs, 0⟩, ⟨t2, it2, if2, 0⟩] scope pos) 0 it acc env).onRaise (fun x => do noteFrame x env; theTreesLotGoes x)) _ _ s
  refine wpAny_noted ?_
  rw [turn_out]
  refine wpAny_bind (wpAny_standAt (wpAny_bind (wpAny_mono (turn n s hI) (fun r s₁ h₁ => ?_) fun _ _ h' => h')))
  cases r with
  | none => exact wpAny_pure h₁
  | some v =>
    refine wpAny_bind (wpAny_mono h₁ (fun _ s₁' h₁' => ?_) fun _ _ h' => h')
    refine wpAny_bind (wpAny_mono h₁' (fun _ s₂ h₂ => wpAny_bind (wpAny_mono h₂ (fun ok s₃ h₃ => ?_) fun _ _ h' => h')) fun _ _ h' => h')
    cases ok with
    | false => exact wpAny_pure ⟨rfl, h₃⟩
    | true =>
      refine wpAny_bind (wpAny_mono h₃ (fun x s₄ h₄ => wpAny_bind (wpAny_standAt (wpAny_bind (wpAny_of_eq (hs x) (wpAny_bind (wpAny_holding (wpAny_mono h₄ (fun it' s₅ h₅ => ?_) fun _ _ h' => h'))))))) fun _ _ h' => h')
      exact wpAny_bind (wpAny_mono h₅ (fun _ s₆ h₆ => wpAny_pure ⟨rfl, h₆⟩) fun _ _ h' => h')
end
set_option genSizeOf false in
set_option genInjectivity false in
/-- a source and its target: one step lays the next item into the block's names -/
structure CWalk (prog : Program) (w : World) (A : Around) (target : PySem.Expr) (it : Value) (cenv : Env) (wr fp : List Addr) (n : Nat) (Kp : (Str → Option Value) → Prop) (Bd : Nat → (Str → Option Value) → Prop) (St : Nat → Heap → Prop) : Prop where
  sub : ∀ b ∈ wr, b ∈ fp
  frame : ∀ i h h', St i h → (∀ b ∈ fp, ∀ o, h.get? b = some o → h'.get? b = some o) → St i h'
  item : ∀ i (s : Shared) m' (Q : Shared → Prop) (E : Value → Shared → Prop), i < n → St i s.heap → s.heap.Ns cenv.locals m' → Kp m' →
    (∀ h₃ tk₃ m₃, St (i + 1) h₃ → h₃.Ns cenv.locals m₃ → Kp m₃ → Bd i m₃ → (∀ b o, b ≠ cenv.locals → b ∉ wr → s.heap.get? b = some o → h₃.get? b = some o) → Q { s with heap := h₃, toks := tk₃ }) →
    wpAny (model prog w) A (pyNext it) (fun r s₁ => ∃ v, r = some v ∧ wpAny (model prog w) A (letOwnedTupleGo target it v) (fun _ s₁' => wpAny (model prog w) A (assign target cenv v) (fun _ s₂ => Q s₂) E s₁') E s₁) E s
  done : ∀ (s : Shared) (Q : Shared → Prop) (E : Value → Shared → Prop), St n s.heap → (∀ h' tk, (∀ b o, b ∉ wr → s.heap.get? b = some o → h'.get? b = some o) → Q { s with heap := h', toks := tk }) → wpAny (model prog w) A (pyNext it) (fun r s₁ => r = none ∧ Q s₁) E s
  self : ∀ i (s : Shared) (Q : Value → Shared → Prop) (E : Value → Shared → Prop), St i s.heap → Q it s → wpAny (model prog w) A (pyIter it) Q E s
theorem CWalk.name {prog : Program} {w : World} {A : Around} {I : Addr} {wr fp : List Addr} {n : Nat} {P : Nat → Value → Prop} {St : Nat → Heap → Prop} {cenv : Env} {x : Str} {px : Pos} {Kp : (Str → Option Value) → Prop}
    (W : Walks prog w A I fp wr n P St) (hC : cenv.locals ∉ fp) (hx : cenv.kindOf x = some .local) (hp : (cenv.scope.kind == .class || (cenv.scope.kind == .module && cenv.locals != cenv.globals)) = false)
    (hK : ∀ m v, Kp m → Kp (fun z => if z = x then some v else m z)) :
    CWalk prog w A (.Name x px) (.ref I) cenv wr fp n Kp (fun i m => ∃ v, P i v ∧ m x = some v) St where
  sub := W.sub
  frame := W.frame
  item := fun i s m' Q E hi hst hn hk hQ => by
    refine W.item i _ _ _ hi hst fun v h₂ tk₂ hPv hst₂ hk₂ => ⟨v, rfl, ?_⟩
    refine wpAny_pure ?_
    refine wpAny_assign_Name (wpAny_storeName_local hx (hn.at' fun o e => hk₂ _ o (fun q => hC (W.sub _ q)) e) (fun h₃ hn₃ hs₃ => ?_) hp)
    exact hQ h₃ _ _ (W.frame _ _ _ hst₂ fun b hb o e => hs₃.extBut b o (fun q => hC (q ▸ hb)) e) hn₃ (hK _ _ hk) ⟨v, hPv, by simp⟩ fun b o hb1 hb2 e => hs₃.extBut b o hb1 (hk₂ b o hb2 e)
  done := fun s Q E hst hQ => W.done _ _ _ hst fun h' tk hk => ⟨rfl, hQ h' tk hk⟩
  self := W.self
theorem CWalk.pair {prog : Program} {w : World} {A : Around} {I : Addr} {wr fp : List Addr} {n : Nat} {Pt : Nat → Array Value → Prop} {St : Nat → Heap → Prop} {Mid : Nat → Addr → Heap → Prop} {cenv : Env} {x y : Str} {px py pt : Pos} {k1 : Nat} {Kp : (Str → Option Value) → Prop} {P : Nat → Value → Value → Prop}
    (W : WalksT prog w A I fp wr n Pt St Mid) (hh : A.handled = none) (hP : ∀ i vs, Pt i vs → ∃ a b, vs = #[a, b] ∧ P i a b) (hC : cenv.locals ∉ fp) (hx : cenv.kindOf x = some .local) (hy : cenv.kindOf y = some .local) (hxy : x ≠ y) (hp : (cenv.scope.kind == .class || (cenv.scope.kind == .module && cenv.locals != cenv.globals)) = false)
    (hK : ∀ m v, Kp m → Kp (fun z => if z = x then some v else m z)) (hK' : ∀ m v, Kp m → Kp (fun z => if z = y then some v else m z)) :
    CWalk prog w A (.Tuple [.Name x px, .Name y py] k1 pt) (.ref I) cenv wr fp n Kp (fun i m => ∃ a b, P i a b ∧ m x = some a ∧ m y = some b) St where
  sub := W.sub
  frame := W.frame
  item := fun i s m' Q E hi hst hn hk hQ => by
    refine W.item i _ _ _ hi hst fun T vals h₂ tk₂ hPt hTs hT hmid hk₂ => ⟨_, rfl, ?_⟩
    obtain ⟨a, b, rfl, hab⟩ := hP _ _ hPt
    refine W.go _ _ _ i T _ _ _ hmid fun h₃ hst₃ hk₃ => ?_
    have hTw := W.apart _ _ _ hmid
    obtain ⟨oT, heT, hcT, ntT, hdT⟩ := hT
    have hT₃ : IsTup h₃ T #[a, b] := ⟨oT, hk₃ _ _ hTw heT, hcT, ntT, hdT⟩
    have hCw : cenv.locals ∉ wr := fun q => hC (W.sub _ q)
    refine assign_Tuple_tuple hh hT₃ rfl rfl fun h₅ he => ?_
    have he' : ∀ b o, h₃.get? b = some o → h₅.get? b = some o := fun b o e => he b o (Nat.ne_of_lt (Heap.lt_size e)) e
    have hn₅ := ((hn.at' fun o e => hk₂ _ o hCw e).at' fun o e => hk₃ _ o hCw e).at' fun o e => he' _ o e
    refine assignInOrder_cons (wpAny_assign_Name (wpAny_storeName_local hx hn₅ (fun h₆ hn₆ hs₆ => ?_) hp))
    refine assignInOrder_cons (wpAny_assign_Name (wpAny_storeName_local hy hn₆ (fun h₇ hn₇ hs₇ => ?_) hp))
    refine assignInOrder_nil ?_
    refine hQ h₇ _ _ (W.frame _ _ _ hst₃ fun b hb o e => hs₇.extBut b o (fun q => hC (q ▸ hb)) (hs₆.extBut b o (fun q => hC (q ▸ hb)) (he' b o e))) hn₇ (hK' _ _ (hK _ _ hk)) ⟨a, b, hab, by simp [hxy], by simp⟩
      fun b o hb1 hb2 e => hs₇.extBut b o hb1 (hs₆.extBut b o hb1 (he' b o (hk₃ b o hb2 (hk₂ b o hb2 e))))
  done := fun s Q E hst hQ => W.done _ _ _ hst fun h' tk hk => ⟨rfl, hQ h' tk hk⟩
  self := W.self
end Mine
end
section
open PySem PySem.W PyProof.Rows PySem.Calls PySem.Spec PyProof.V PyProof.Rows.LCg
set_option maxHeartbeats 2000000
namespace Mine
noncomputable def JEnd (h₀ : Heap) (L : Addr) (m : Str → Option Value) (C D : Addr) (news : List (Addr × Obj)) (Kp : (Str → Option Value) → Prop) (J : List Value → Prop) (s s₅ : Shared) : Prop :=
  ∃ h tk ys oC m₃, s₅ = { s with heap := h, toks := tk } ∧ Fr h₀ L h m ∧ News h₀ L h ((C, oC) :: (D, lst ys) :: news) ∧ NsObj oC m₃ ∧ Kp m₃ ∧ J ys
/-- an element's end -/
noncomputable def ElEnd (h₀ : Heap) (L : Addr) (m : Str → Option Value) (C D : Addr) (ys : List Value) (news : List (Addr × Obj)) (Kp : (Str → Option Value) → Prop) (J : List Value → Prop) (s : Shared) (y : Value) (s₅ : Shared) : Prop :=
  ∃ h tk oC m₃, s₅ = { s with heap := h, toks := tk } ∧ Fr h₀ L h m ∧ News h₀ L h ((C, oC) :: (D, lst ys) :: news) ∧ NsObj oC m₃ ∧ Kp m₃ ∧ J (ys ++ [y])
abbrev tests (ifs : List PySem.Expr) (cenv : Env) : Sem Bool := forIn ifs true fun c r => if r = true then do let ok ← PySem.isTrue c cenv (eval c cenv); pure (ForInStep.yield ok) else pure (ForInStep.yield r)
theorem own_sub {h₀ h : Heap} {fp : List Addr} (p : Addr × Obj) (hp : p ∈ ownOf h₀ fp h) : p.1 ∈ fp := by
  obtain ⟨b, hb, e⟩ := List.mem_filterMap.mp hp
  cases hn : h₀.get? b with
  | some x => simp [hn] at e
  | none =>
    cases hx : h.get? b with
    | none => simp [hn, hx] at e
    | some o => simp [hn, hx] at e; rw [← e]; exact hb
section
variable {prog : Program} {w : World} {A : Around} {R : Result → Shared → Prop} {s : Shared} {h₀ : Heap} {L C D : Addr} {m : Str → Option Value}
theorem loop_J {target : PySem.Expr} {it : Value} {cenv : Env} {wr fp : List Addr} {n : Nat} {Kp : (Str → Option Value) → Prop} {Bd : Nat → (Str → Option Value) → Prop} {St : Nat → Heap → Prop} {ifs : List PySem.Expr} {code : Code} {EM : (Shared → Prop) → Shared → Prop} {E : Value → Shared → Prop}
    (hloop : ∀ (Iv : Nat → Shared → Prop), (∀ n s, Iv n s → wpAny (model prog w) A (pyNext it) (fun r s₁ => match r with
      | none => R (.ok .next) s₁
      | some v => wpAny (model prog w) A (letOwnedTupleGo target it v) (fun _ s₁' => wpAny (model prog w) A (assign target cenv v) (fun _ s₂ =>
          wpAny (model prog w) A (tests ifs cenv) (fun ok s₃ =>
            if ok = true then EM (fun s₅ => ∃ m, m < n ∧ Iv m s₅) s₃ else ∃ m, m < n ∧ Iv m s₃) E s₂) E s₁') E s₁) E s) → ∀ n s, Iv n s → codeAny (model prog w) A code R s)
    (hEM : ∀ (Q Q' : Shared → Prop) s, (∀ s', Q s' → Q' s') → EM Q s → EM Q' s)
    (W : CWalk prog w A target it cenv wr fp n Kp Bd St) (hCe : cenv.locals = C)
    (hC₀ : h₀.get? C = none) (hD₀ : h₀.get? D = none) (hCL : C ≠ L) (hDL : D ≠ L) (hCD : C ≠ D) (hCf : C ∉ fp) (hDf : D ∉ fp) (hLw : L ∉ wr) (hw₀ : ∀ b ∈ wr, h₀.get? b = none)
    {news : List (Addr × Obj)} (hnw : ∀ p ∈ news, p.1 ∉ wr) (hnC : ∀ p ∈ news, p.1 ≠ C) (hnD : ∀ p ∈ news, p.1 ≠ D)
    (hfpk : ∀ b ∈ fp, b ∈ wr ∨ (∃ o, h₀.get? b = some o) ∨ (∃ o, (b, o) ∈ news))
    {ys₀ : List Value} {m₀ : Str → Option Value} {J : Nat → List Value → Prop}
    (st : St 0 s.heap) (F : Fr h₀ L s.heap m) (hn : s.heap.Ns C m₀) (hk : Kp m₀) (N : News h₀ L s.heap ((D, lst ys₀) :: news)) (hJ : J 0 ys₀)
    (turn : ∀ i ys m₂ oC h tk own, i < n → (∀ p ∈ own, p.1 ≠ D ∧ p.1 ≠ C) → J i ys → Bd i m₂ → Kp m₂ → NsObj oC m₂ → Fr h₀ L h m → News h₀ L h ((C, oC) :: (D, lst ys) :: (news ++ own)) →
      wpAny (model prog w) A (tests ifs cenv) (fun ok s₃ => if ok = true then EM (JEnd h₀ L m C D (news ++ own) Kp (J (i + 1)) s) s₃ else JEnd h₀ L m C D (news ++ own) Kp (J (i + 1)) s s₃) E { s with heap := h, toks := tk })
    (done : ∀ h tk ys m₃, J n ys → Fr h₀ L h m → h.Ns C m₃ → Kp m₃ → News h₀ L h ((D, lst ys) :: news) → R (.ok .next) { s with heap := h, toks := tk }) :
    codeAny (model prog w) A code R s := by
  have hDw : D ∉ wr := fun q => hDf (W.sub _ q)
  have hCw : C ∉ wr := fun q => hCf (W.sub _ q)
  refine hloop (fun k s' => ∃ h tk i ys m₃, s' = { s with heap := h, toks := tk } ∧ i ≤ n ∧ k = n + 1 - i ∧ St i h ∧ Fr h₀ L h m ∧ h.Ns C m₃ ∧ Kp m₃ ∧ News h₀ L h ((D, lst ys) :: news) ∧ J i ys) ?_ (n + 1) s
    ⟨s.heap, s.toks, 0, ys₀, m₀, rfl, Nat.zero_le _, rfl, st, F, hn, hk, N, hJ⟩
  rintro k s' ⟨h, tk, i, ys, m₃, rfl, hi, rfl, st', F', hn', hk', N', hJ'⟩
  by_cases hlt : i < n
  · refine wpAny_mono (W.item i _ m₃ (fun s₂ => wpAny (model prog w) A (tests ifs cenv) (fun ok s₃ =>
            if ok = true then EM (fun s₅ => ∃ m', m' < n + 1 - i ∧ ∃ h tk i ys m₃, s₅ = { s with heap := h, toks := tk } ∧ i ≤ n ∧ m' = n + 1 - i ∧ St i h ∧ Fr h₀ L h m ∧ h.Ns C m₃ ∧ Kp m₃ ∧ News h₀ L h ((D, lst ys) :: news) ∧ J i ys) s₃
            else ∃ m', m' < n + 1 - i ∧ ∃ h tk i ys m₃, s₃ = { s with heap := h, toks := tk } ∧ i ≤ n ∧ m' = n + 1 - i ∧ St i h ∧ Fr h₀ L h m ∧ h.Ns C m₃ ∧ Kp m₃ ∧ News h₀ L h ((D, lst ys) :: news) ∧ J i ys) E s₂) E hlt st' (hCe ▸ hn') hk' ?_) ?_ fun _ _ e => e
    · intro h₃ tk₃ m₄ st₃ hn₃ hk₃ hb₃ keep
      rw [hCe] at hn₃ keep
      obtain ⟨oC, heC, hoC⟩ := ns_obj hn₃
      have F₃ : Fr h₀ L h₃ m := ⟨F'.ns.at' fun o e => keep L o (Ne.symm hCL) hLw e, fun b o e => keep b o (fun q => by rw [q, hC₀] at e; cases e) (fun q => by rw [hw₀ b q] at e; cases e) (F'.keep b o e), F'.above⟩
      have N₃ : News h₀ L h₃ ((D, lst ys) :: news) := fun p hp => ⟨keep _ _ (by
          rcases List.mem_cons.mp hp with rfl | hp
          · exact Ne.symm hCD
          · exact hnC p hp) (by
          rcases List.mem_cons.mp hp with rfl | hp
          · exact hDw
          · exact hnw p hp) (N' p hp).1, (N' p hp).2⟩
      have Nown : News h₀ L h₃ (ownOf h₀ wr h₃) := news_ownOf hLw
      have N₄ : News h₀ L h₃ ((C, oC) :: (D, lst ys) :: (news ++ ownOf h₀ wr h₃)) := fun p hp => by
        rcases List.mem_cons.mp hp with rfl | hp
        · exact ⟨heC, hCL, hC₀⟩
        · rcases List.mem_cons.mp hp with rfl | hp
          · exact N₃ _ (List.mem_cons_self ..)
          · rcases List.mem_append.mp hp with hp | hp
            · exact N₃ _ (List.mem_cons_of_mem _ hp)
            · exact Nown _ hp
      have back : ∀ s₅, JEnd h₀ L m C D (news ++ ownOf h₀ wr h₃) Kp (J (i + 1)) s s₅ → ∃ m', m' < n + 1 - i ∧ ∃ h tk i ys m₃, s₅ = { s with heap := h, toks := tk } ∧ i ≤ n ∧ m' = n + 1 - i ∧ St i h ∧ Fr h₀ L h m ∧ h.Ns C m₃ ∧ Kp m₃ ∧ News h₀ L h ((D, lst ys) :: news) ∧ J i ys := by
        rintro s₅ ⟨h₅, tk₅, ys₅, oC₅, m₅, rfl, F₅, N₅, hoC₅, hk₅, hJ₅⟩
        refine ⟨n + 1 - (i + 1), by omega, h₅, tk₅, i + 1, ys₅, m₅, rfl, hlt, rfl, ?_, F₅, hoC₅.ns (N₅ _ (List.mem_cons_self ..)).1, hk₅, fun p hp => ?_, hJ₅⟩
        · refine W.frame _ _ _ st₃ fun b hb o e => ?_
          rcases hfpk b hb with q | ⟨o', q⟩ | ⟨o', q⟩
          · exact (N₅ (b, o) (List.mem_cons_of_mem _ (List.mem_cons_of_mem _ (List.mem_append_right _ (mem_ownOf q (hw₀ b q) e))))).1
          · have := F₃.keep b o' q
            rw [e] at this
            cases this
            exact F₅.keep b _ q
          · have := (N₃ _ (List.mem_cons_of_mem _ q)).1
            rw [e] at this
            cases this
            exact (N₅ (b, _) (List.mem_cons_of_mem _ (List.mem_cons_of_mem _ (List.mem_append_left _ q)))).1
        · rcases List.mem_cons.mp hp with rfl | hp
          · exact N₅ _ (List.mem_cons_of_mem _ (List.mem_cons_self ..))
          · exact N₅ _ (List.mem_cons_of_mem _ (List.mem_cons_of_mem _ (List.mem_append_left _ hp)))
      refine wpAny_mono (turn i ys m₄ oC h₃ tk₃ _ hlt (fun p hp => ⟨fun q => hDw (q ▸ own_sub p hp), fun q => hCw (q ▸ own_sub p hp)⟩) hJ' hb₃ hk₃ hoC F₃ N₄) (fun ok s₃ h₃ => ?_) fun _ _ e => e
      cases ok with
      | true =>
        simp only [if_true] at h₃ ⊢
        exact hEM _ _ _ back h₃
      | false =>
        simp only [Bool.false_eq_true, if_false] at h₃ ⊢
        exact back _ h₃
    · rintro r s₁ ⟨v, rfl, hq⟩
      exact hq
  · obtain rfl : i = n := Nat.le_antisymm hi (Nat.not_lt.mp hlt)
    refine wpAny_mono (W.done _ (fun s₁ => R (.ok .next) s₁) _ st' fun h₂ tk₂ hk₂ => ?_) ?_ fun _ _ e => e
    · exact done h₂ tk₂ ys m₃ hJ' ⟨F'.ns.at' fun o e => hk₂ L o hLw e, fun b o e => hk₂ b o (fun q => by rw [hw₀ b q] at e; cases e) (F'.keep b o e), F'.above⟩ (hn'.at' fun o e => hk₂ _ o hCw e) hk' fun p hp => ⟨hk₂ _ _ (by
          rcases List.mem_cons.mp hp with rfl | hp
          · exact hDw
          · exact hnw p hp) (N' p hp).1, (N' p hp).2⟩
    · rintro r s₁ ⟨rfl, hq⟩
      exact hq
theorem emit_plain {elt : PySem.Expr} {cenv : Env} {E : Value → Shared → Prop} {s₃ : Shared} {ys : List Value} {news : List (Addr × Obj)} {Kp : (Str → Option Value) → Prop} {J : List Value → Prop} (hCD : C ≠ D) (hDL : D ≠ L) (hD₀ : h₀.get? D = none) (hnD : ∀ p ∈ news, p.1 ≠ D)
    (hsz : ys.length ≤ sizeLine) (h : wpAny (model prog w) A (eval elt cenv) (ElEnd h₀ L m C D ys news Kp J s) E s₃) :
    wpAny (model prog w) A (do let _ ← call (.builtin "list.append") [.ref D, ← eval elt cenv]) (fun _ s₅ => JEnd h₀ L m C D news Kp J s s₅) E s₃ := by
  refine wpAny_bind (wpAny_mono h (fun y s₄ h₄ => ?_) fun _ _ e => e)
  obtain ⟨h, tk, oC, m₃, rfl, F, N, hoC, hk, hJ⟩ := h₄
  refine wpAny_bind (append_at (hsz := by show ys.toArray.size ≤ sizeLine; rw [List.size_toArray]; exact hsz) (N (D, lst ys) (List.mem_cons_of_mem _ (List.mem_cons_self ..))).1 fun h₅ hs₅ hD₅ => wpAny_pure ?_)
  refine ⟨h₅, tk, ys ++ [y], oC, m₃, rfl, F.change hs₅ hDL hD₀, fun p hp => ?_, hoC, hk, hJ⟩
  rcases List.mem_cons.mp hp with rfl | hp
  · have z := N _ (List.mem_cons_self (a := (C, oC)))
    exact ⟨hs₅.extBut _ _ hCD z.1, z.2⟩
  · rcases List.mem_cons.mp hp with rfl | hp
    · exact ⟨hD₅.trans (congrArg some (lst_snoc ys y)), hDL, hD₀⟩
    · have z := N p (List.mem_cons_of_mem _ (List.mem_cons_of_mem _ hp))
      exact ⟨hs₅.extBut _ _ (hnD p hp) z.1, z.2⟩
end
end Mine
end
section
open PySem PySem.W PyProof.Rows PySem.Calls PySem.Spec PyProof.V PyProof.Rows.LCg
set_option maxHeartbeats 2000000
namespace Mine
noncomputable def CompAt (prog : Program) (w : World) (A : Around) (h₀ : Heap) (L : Addr) (m : Str → Option Value) (env : Env) (target elt : PySem.Expr) (ifs : List PySem.Expr) (scope : Scope) (cl : List (Str × Addr)) (Fin : Shared → Addr → List Value → List (Addr × Obj) → Prop) (it : Value) (s₂ : Shared) : Prop :=
  ∃ (wr fp : List Addr) (n : Nat) (Bd : Nat → (Str → Option Value) → Prop) (St : Nat → Heap → Prop) (news : List (Addr × Obj)) (J : Nat → List Value → Prop),
    (∀ C, C ∉ fp → CWalk prog w A target it (compEnvC scope cl C env) wr fp n (fun _ => True) Bd St) ∧ (∀ b ∈ fp, b < s₂.heap.objs.size) ∧ L ∉ wr ∧ (∀ b ∈ wr, h₀.get? b = none) ∧ (∀ p ∈ news, p.1 ∉ wr) ∧
    (∀ b ∈ fp, b ∈ wr ∨ (∃ o, h₀.get? b = some o) ∨ (∃ o, (b, o) ∈ news)) ∧ St 0 s₂.heap ∧ Fr h₀ L s₂.heap m ∧ News h₀ L s₂.heap news ∧ J 0 [] ∧ (∀ i ys, i < n → J i ys → ys.length ≤ sizeLine) ∧
    (∀ C D i ys m₂ oC h tk own (E' : Value → Shared → Prop), i < n → J i ys → Bd i m₂ → NsObj oC m₂ → Fr h₀ L h m → News h₀ L h ((C, oC) :: (D, lst ys) :: (news ++ own)) →
      wpAny (model prog w) A (tests ifs (compEnvC scope cl C env)) (fun ok s₃ => if ok = true then wpAny (model prog w) A (eval elt (compEnvC scope cl C env)) (ElEnd h₀ L m C D ys (news ++ own) (fun _ => True) (J (i + 1)) s₂) E' s₃
        else JEnd h₀ L m C D (news ++ own) (fun _ => True) (J (i + 1)) s₂ s₃) E' { s₂ with heap := h, toks := tk }) ∧
    (∀ D ys, J n ys → (∀ p ∈ news, p.1 < D) → Fin s₂ D ys news)
section
variable {prog : Program} {w : World} {A : Around} {E : Value → Shared → Prop} {s : Shared} {h₀ : Heap} {L : Addr} {m : Str → Option Value} {env : Env}
theorem block_J {elt target iter : PySem.Expr} {ifs : List PySem.Expr} {scope : Scope} {cl : List (Str × Addr)} {pos : Pos} {it : Value} {s₂ : Shared} {Fin : Shared → Addr → List Value → List (Addr × Obj) → Prop} {RR : Value → Addr → Result → Shared → Prop}
    (hcell : ∀ y ∈ scope.names, y.2 ≠ .cell) (hkind : scope.kind = .function) (H : CompAt prog w A h₀ L m env target elt ifs scope cl Fin it s₂)
    (hRR : ∀ D C h tk m' ys news, Fr h₀ L h m → News h₀ L h ((D, lst ys) :: news) → (∀ p ∈ news, p.1 < D) → h.Ns C m' → h₀.get? C = none → h₀.get? D = none → C ≠ L → D ≠ L → C ≠ D → (∀ p ∈ news, p.1 ≠ C) → Fin s₂ D ys news → RR (.ref D) C (.ok .next) { s₂ with heap := h, toks := tk }) :
    wpAny (model prog w) A (newList []) (fun acc s₃ => wpAny (model prog w) A (newFunctionEnv scope env.globals cl [] env.qual none .none (some env)) (fun cenv s₄ =>
      codeAny (model prog w) A (.compStart (.ListComp elt [⟨target, iter, ifs, 0⟩] scope pos) 0 it acc { cenv with scope := relabel scope env }) (RR acc cenv.locals) s₄) E s₃) E s₂ := by
  obtain ⟨wr, fp, n, Bd, St, news, J, hW, hfp, hLw, hw₀, hnw, hfpk, hst, F, N, hJ, hlen, turn, done⟩ := H
  refine wpAny_newObj_type (wpAny_newFunctionEnv hcell (by intro y hy; simp at hy) (fun h₁ hns₁ hsb₁ => ?_) hkind)
  dsimp only at hns₁ hsb₁ ⊢
  generalize hH2 : s₂.heap.push { cls := .type "list", dict := none, data := .seq ([] : List Value).toArray } = H2 at hns₁ hsb₁ ⊢
  have hC : H2.objs.size = s₂.heap.objs.size + 1 := by rw [← hH2, Heap.size_push]
  have hDC : s₂.heap.objs.size ≠ H2.objs.size := by rw [hC]; exact Nat.ne_of_lt (Nat.lt_succ_self _)
  have below : ∀ b, b < s₂.heap.objs.size → b ≠ H2.objs.size ∧ b ≠ s₂.heap.objs.size := fun b hb => ⟨by rw [hC]; exact Nat.ne_of_lt (Nat.lt_succ_of_lt hb), Nat.ne_of_lt hb⟩
  have hDf : s₂.heap.objs.size ∉ fp := fun hm => Nat.lt_irrefl _ (hfp _ hm)
  have hCf : H2.objs.size ∉ fp := fun hm => by have := hfp _ hm; rw [hC] at this; exact Nat.lt_irrefl _ (Nat.lt_of_succ_lt this)
  have old : ∀ b o, s₂.heap.get? b = some o → h₁.get? b = some o := fun b o e => hsb₁.extBut b o (below b (Heap.lt_size e)).1 (Heap.get?_push_of_some _ (hH2 ▸ Heap.get?_push_of_some _ e))
  have hacc : h₁.get? s₂.heap.objs.size = some (lst []) := hsb₁.extBut _ _ hDC (Heap.get?_push_of_some _ (hH2 ▸ Heap.get?_push_size _ rfl))
  have W := hW _ hCf
  have hst₁ : St 0 h₁ := W.frame _ _ _ hst fun b _ o e => old b o e
  have fresh₀ : ∀ a, s₂.heap.objs.size ≤ a → h₀.get? a = none := fun a ha => by
    cases e : h₀.get? a with
    | none => rfl
    | some o' => exact absurd (Heap.lt_size (F.keep a o' e)) (Nat.not_lt.mpr ha)
  have hD₀ : h₀.get? s₂.heap.objs.size = none := fresh₀ _ (Nat.le_refl _)
  have hC₀ : h₀.get? H2.objs.size = none := fresh₀ _ (by rw [hC]; exact Nat.le_succ _)
  have hLlt : L < s₂.heap.objs.size := F.ns.lt
  have hDL : s₂.heap.objs.size ≠ L := Ne.symm (below L hLlt).2
  have hCL : H2.objs.size ≠ L := Ne.symm (below L hLlt).1
  have N₁ : News h₀ L h₁ ((s₂.heap.objs.size, lst []) :: news) := fun p hp => by
    rcases List.mem_cons.mp hp with rfl | hp
    · exact ⟨hacc, hDL, hD₀⟩
    · exact ⟨old _ _ (N p hp).1, (N p hp).2⟩
  have loop : ∀ s₃ : Shared, s₃ = { s₂ with heap := h₁, toks := s₂.toks + ([] : List (Str × Value)).length } →
      codeAny (model prog w) A (.compLoop (.ListComp elt [⟨target, iter, ifs, 0⟩] scope pos) 0 it (.ref s₂.heap.objs.size) (compEnvC scope cl H2.objs.size env))
        (RR (.ref s₂.heap.objs.size) H2.objs.size) s₃ := by
    rintro s₃ rfl
    refine loop_J (s := ⟨h₁, s₂.gens, s₂.drawn, _, s₂.os⟩) (news := news) (J := J) (EM := fun Q s₃ => wpAny (model prog w) A (do let _ ← call (.builtin "list.append") [.ref s₂.heap.objs.size, ← eval elt (compEnvC scope cl H2.objs.size env)]) (fun _ s' => Q s') (notedBy (model prog w) A (compEnvC scope cl H2.objs.size env) fun e s' => RR (.ref s₂.heap.objs.size) H2.objs.size (.error e) s') s₃) (E := notedBy (model prog w) A (compEnvC scope cl H2.objs.size env) fun e s' => RR (.ref s₂.heap.objs.size) H2.objs.size (.error e) s')
      (fun Iv t n s h => compLoop_any Iv (turn_one ..) t n h) (fun Q Q' s hq hm => wpAny_mono hm (fun _ s' h => hq s' h) fun _ _ e => e)
      W rfl hC₀ hD₀ hCL hDL (Ne.symm hDC) hCf hDf hLw hw₀ hnw (fun p hp => (below _ (Heap.lt_size (N p hp).1)).1) (fun p hp => (below _ (Heap.lt_size (N p hp).1)).2) hfpk hst₁ (F.keeps old) hns₁ trivial N₁ hJ ?_ ?_
    · intro i ys m₂ oC h tk own hi hown hJi hb _ hoC F₂ N₂
      refine wpAny_mono (turn _ _ i ys m₂ oC h tk own _ hi hJi hb hoC F₂ N₂) (fun ok s₃ h₃ => ?_) fun _ _ e => e
      cases ok with
      | true =>
        simp only [if_true] at h₃ ⊢
        exact emit_plain (Ne.symm hDC) hDL hD₀ (fun p hp => (List.mem_append.mp hp).elim (fun q => (below _ (Heap.lt_size (N p q).1)).2) (fun q => (hown p q).1)) (hlen i ys hi hJi) h₃
      | false =>
        simp only [Bool.false_eq_true, if_false] at h₃ ⊢
        exact h₃
    · intro h tk ys m₃ hJn F₃ hn₃ _ N₃
      exact hRR _ _ h tk m₃ ys news F₃ N₃ (fun p hp => Heap.lt_size (N p hp).1) hn₃ hC₀ hD₀ hCL hDL (Ne.symm hDC) (fun p hp => (below _ (Heap.lt_size (N p hp).1)).1) (done _ ys hJn fun p hp => Heap.lt_size (N p hp).1)
  exact codeAny_compStart_list (loop _ rfl) (W.self 0 _ _ _ hst₁ (loop _ rfl))
/-- where the list is handed on -/
noncomputable def FinEJ (h₀ : Heap) (L : Addr) (m : Str → Option Value) (Q : Value → Shared → Prop) (s : Shared) (D : Addr) (ys : List Value) (news : List (Addr × Obj)) : Prop :=
  ∀ h tk, Fr h₀ L h m → News h₀ L h ((D, lst ys) :: news) → (∀ p ∈ news, p.1 < D) → Q (.ref D) { s with heap := h, toks := tk }
noncomputable def FinAJ (h₀ : Heap) (L : Addr) (m : Str → Option Value) (y : Str) (Q : Flow → Shared → Prop) (s : Shared) (D : Addr) (ys : List Value) (news : List (Addr × Obj)) : Prop :=
  ∀ h tk, Fr h₀ L h (fun z => if z = y then some (.ref D) else m z) → News h₀ L h ((D, lst ys) :: news) → (∀ p ∈ news, p.1 < D) → Q .next { s with heap := h, toks := tk }
theorem ListComp_J {elt target iter : PySem.Expr} {ifs : List PySem.Expr} {scope : Scope} {cl : List (Str × Addr)} {pos : Pos} {Q : Value → Shared → Prop} (_F₀ : Fr h₀ L s.heap m)
    (hclos : closureFor scope env = pure cl) (hcell : ∀ y ∈ scope.names, y.2 ≠ .cell) (hkind : scope.kind = .function)
    (hnames : ∀ y ∈ scope.names, y.2 = .local → scope.names.lookup y.1 = some .local)
    (h : wpAny (model prog w) A (eval iter env) (fun xv s₁ => wpAny (model prog w) A (pyIter xv) (fun it s₂ => CompAt prog w A h₀ L m env target elt ifs scope cl (FinEJ h₀ L m Q) it s₂) E s₁) E s)
    (hs : ∀ x, foldedSetIterable iter env x = pure x) :
    wpAny (model prog w) A (eval (.ListComp elt [⟨target, iter, ifs, 0⟩] scope pos) env) Q E s := by
  rw [eval_ListComp]
  refine wpAny_comprehension_free (use := none) rfl hs hclos hkind hnames (wpAny_mono h (fun xv s₁ h₁ => wpAny_mono h₁ (fun it s₂ h₂ => ?_) fun _ _ e => e) fun _ _ e => e)
  refine block_J hcell hkind h₂ ?_
  intro D C h tk m' ys news F' N' lt hn hC₀ hD₀ hCL hDL hCD offC fin
  refine ⟨m', hn, fun h'' hs'' => fin h'' tk (F'.change hs'' hCL hC₀) (fun p hp => ?_) lt⟩
  refine ⟨hs''.extBut _ _ ?_ (N' p hp).1, (N' p hp).2⟩
  rcases List.mem_cons.mp hp with rfl | hp
  · exact Ne.symm hCD
  · exact offC p hp
theorem Assign_ListComp_J {elt target iter : PySem.Expr} {ifs : List PySem.Expr} {y : Str} {py : Pos} {scope : Scope} {cl : List (Str × Addr)} {pos spos : Pos} {Q : Flow → Shared → Prop} (_F₀ : Fr h₀ L s.heap m) (hLe : env.locals = L)
    (hsw : swapsWith (.ListComp elt [⟨target, iter, ifs, 0⟩] scope pos) (some (.Name y py)) spos.line env = pure true)
    (hclos : closureFor scope env = pure cl) (hcell : ∀ z ∈ scope.names, z.2 ≠ .cell) (hkind : scope.kind = .function)
    (hnames : ∀ z ∈ scope.names, z.2 = .local → scope.names.lookup z.1 = some .local)
    (hy : env.kindOf y = some .local) (hp : (env.scope.kind == .class || (env.scope.kind == .module && env.locals != env.globals)) = false)
    (h : wpAny (model prog w) A (eval iter env) (fun xv s₁ => wpAny (model prog w) A (pyIter xv) (fun it s₂ => CompAt prog w A h₀ L m env target elt ifs scope cl (FinAJ h₀ L m y Q) it s₂) E s₁) E s)
    (hs : ∀ x, foldedSetIterable iter env x = pure x) :
    wpAny (model prog w) A (exec (.Assign [.Name y py] (.ListComp elt [⟨target, iter, ifs, 0⟩] scope pos) spos) env) Q E s := by
  subst hLe
  rw [exec_Assign_Name_used _ _ _ _ hsw]
  refine wpAny_bind (wpAny_standAt (wpAny_bind ?_))
  show wpAny _ A (do let _ ← comprehension (.ListComp elt [⟨target, iter, ifs, 0⟩] scope pos) scope env _ (newList []) false (eval iter env) (some (assign (.Name y py) env))) _ _ s
  refine wpAny_bind (wpAny_mono (wpAny_comprehension_free (use := some (assign (.Name y py) env)) (Q := fun _ s' => Q .next s') rfl hs hclos hkind hnames
    (wpAny_mono h (fun xv s₁ h₁ => wpAny_mono h₁ (fun it s₂ h₂ => ?_) fun _ _ e => e) fun _ _ e => e)) (fun _ s' hq => wpAny_pure (wpAny_pure hq)) fun _ _ e => e)
  refine block_J hcell hkind h₂ ?_
  intro D C h' tk m' ys news F' N' lt hn hC₀ hD₀ hCL hDL hCD offC fin
  show wpAny _ A (assign (.Name y py) env (.ref D)) _ _ _
  refine wpAny_assign_Name (wpAny_storeName_local hy F'.ns (fun h₂ hn₂ hs₂ => ?_) hp)
  have hL₀ : h₀.get? env.locals = none := Heap.get?_none_of_le F'.above
  have F₂ : Fr h₀ env.locals h₂ (fun z => if z = y then some (.ref D) else m z) := ⟨hn₂, fun b o e => hs₂.extBut b o (fun q => by rw [q, hL₀] at e; cases e) (F'.keep b o e), F'.above⟩
  refine ⟨m', hn.sameBut hs₂ hCL, fun h'' hs'' => fin h'' _ (F₂.change hs'' hCL hC₀) (fun p hp => ?_) lt⟩
  have z : h₂.get? p.1 = some p.2 := hs₂.extBut _ _ (N' p hp).2.1 (N' p hp).1
  refine ⟨hs''.extBut _ _ ?_ z, (N' p hp).2⟩
  rcases List.mem_cons.mp hp with rfl | hp
  · exact Ne.symm hCD
  · exact offC p hp
end
end Mine
end
section
open PySem PySem.W PyProof.Rows PySem.Builtin PySem.Builtin.Str
namespace Mine
/-- the codes of a text -/
abbrev cl (x : Str) : List Nat := x.cps.toList
theorem cl_len (x : Str) : (cl x).length = x.length := by show x.cps.toList.length = x.cps.size; simp
theorem cl_inj {x y : Str} (h : cl x = cl y) : x = y := by
  cases x with | mk a => cases y with | mk b =>
    have : a = b := Array.toList_inj.mp h
    rw [this]
theorem cl_app (x y : Str) : cl (x ++ y) = cl x ++ cl y := by
  show (x ++ y).cps.toList = _
  rw [Str.cps_append]; simp
noncomputable def clipI (n : Nat) (d : Int) : Option Int → Int
  | none => d
  | some i => max 0 (min (if i < 0 then i + n else i) n)
theorem idx_eq (l u : Option Int) (n : Nat) : strSliceIndices l u 1 n = sliceRange (clipI n 0 l) (clipI n n u) 1 := by
  cases l <;> cases u <;> rfl
theorem range_list (n a b : Nat) (xs : List Nat) (hn : xs.length = n) (hb : b ≤ n) : (sliceRange (a : Int) (b : Int) 1).filterMap (xs[·]?) = (xs.drop a).take (b - a) := by
  have e : sliceRange (a : Int) (b : Int) 1 = (List.range (b - a)).map (fun k => a + k) := by
    unfold sliceRange
    simp only [show ((1 : Int) > 0) = True from by simp, if_true]
    by_cases hlt : (a : Int) < b
    · have e3 : (((b : Int) - a + 1 - 1) / 1).toNat = b - a := by rw [Int.ediv_one, Int.add_sub_cancel]; exact Int.toNat_sub b a
      simp only [hlt, if_true, e3]
      refine List.map_congr_left fun k _ => ?_
      rw [Int.one_mul]
      rfl
    · have e3 : b - a = 0 := Nat.sub_eq_zero_of_le (Int.ofNat_le.mp (Int.not_lt.mp hlt))
      simp only [hlt, if_false, e3]
      rfl
  rw [e]
  by_cases hab : a ≤ b
  · exact StrLaws.picks xs (b - a) a (by rw [hn, Nat.add_sub_cancel' hab]; exact hb)
  · have : b - a = 0 := Nat.sub_eq_zero_of_le (Nat.le_of_not_le hab)
    rw [this]; simp
theorem clip_bd (n : Nat) (d : Int) (l : Option Int) (h0 : 0 ≤ d) (h1 : d ≤ n) : ∃ a : Nat, clipI n d l = (a : Int) ∧ a ≤ n := by
  have key : ∀ z : Int, 0 ≤ z → z ≤ n → ∃ a : Nat, z = (a : Int) ∧ a ≤ n := fun z q1 q2 => ⟨z.toNat, (Int.toNat_of_nonneg q1).symm, Int.toNat_le.mpr q2⟩
  cases l with
  | none => exact key d h0 h1
  | some i => exact key _ (Int.le_max_left ..) (Int.max_le.mpr ⟨Int.natCast_nonneg n, Int.min_le_right ..⟩)
theorem clip_nat (n k : Nat) (d : Int) : clipI n d (some (k : Int)) = ((min k n : Nat) : Int) := by
  unfold clipI
  simp only
  have e : min (k : Int) (n : Int) = ((min k n : Nat) : Int) := by omega
  rw [if_neg (Int.not_lt.mpr (Int.natCast_nonneg k)), e]
  exact Int.max_eq_right (Int.natCast_nonneg _)
theorem clip_negm (n m : Nat) (d : Int) (hm : 0 < m) : clipI n d (some (-(m : Int))) = ((n - m : Nat) : Int) := by
  unfold clipI
  simp only
  rw [if_pos (by omega)]
  by_cases h : m ≤ n
  · have e : -(m : Int) + (n : Int) = ((n - m : Nat) : Int) := by omega
    rw [e, Int.min_eq_left (by omega)]
    exact Int.max_eq_right (Int.natCast_nonneg _)
  · have e : n - m = 0 := by omega
    rw [e]
    exact Int.max_eq_left (Int.le_trans (Int.min_le_left ..) (by omega))
theorem clip_neg (n : Nat) (d : Int) : clipI n d (some (-1)) = ((n - 1 : Nat) : Int) := clip_negm n 1 d (by decide)
theorem full_zero {a b n : Nat} (h : b - a = n) (hb : b ≤ n) (ha : 0 < a) : n = 0 := by omega
theorem cl_slice (x : Str) (l u : Option Int) : cl (Txt.slice x l u) = ((cl x).drop (clipI x.length 0 l).toNat).take ((clipI x.length x.length u).toNat - (clipI x.length 0 l).toNat) := by
  obtain ⟨a, ha, han⟩ := clip_bd x.length 0 l (Int.le_refl _) (Int.natCast_nonneg _)
  obtain ⟨b, hb, hbn⟩ := clip_bd x.length x.length u (Int.natCast_nonneg _) (Int.le_refl _)
  have key : ((strSliceIndices l u 1 x.length).filterMap (x.cps[·]?)) = ((cl x).drop a).take (b - a) := by
    rw [idx_eq, ha, hb, ← range_list x.length a b (cl x) (cl_len x) hbn]
    refine congrArg (fun f => List.filterMap f _) ?_
    funext i
    exact (Array.getElem?_toList).symm
  rw [ha, hb, Int.toNat_natCast, Int.toNat_natCast]
  unfold Txt.slice
  split
  · rename_i h
    have hl : (strSliceIndices l u 1 x.length).length = x.length := by simpa using h
    rw [← key]
    -- the whole text
    have hsz : b - a = x.length := by
      rw [idx_eq, ha, hb] at hl
      unfold sliceRange at hl
      simp only [show ((1 : Int) > 0) = True from by simp, if_true, List.length_map, List.length_range] at hl
      by_cases hlt : (a : Int) < (b : Int)
      · simp only [hlt, if_true] at hl
        rw [Int.ediv_one, Int.add_sub_cancel] at hl
        exact (Int.toNat_sub b a).symm.trans hl
      · simp only [hlt, if_false] at hl
        exact (Nat.sub_eq_zero_of_le (Int.ofNat_le.mp (Int.not_lt.mp hlt))).trans hl
    rw [key, hsz]
    rcases Nat.eq_zero_or_pos a with hd | hd
    · rw [hd, List.drop_zero, ← cl_len, List.take_length]
    · have h0 : x.length = 0 := full_zero hsz hbn hd
      rw [h0, List.take_zero]
      exact List.eq_nil_of_length_eq_zero ((cl_len x).trans h0)
  · exact key
theorem take_min (l : List Nat) (k n : Nat) (h : l.length = n) : l.take (min k n) = l.take k := by
  subst h
  exact List.take_eq_take_iff.mpr (by rw [Nat.min_assoc, Nat.min_self])
theorem cl_to (x : Str) (k : Nat) : cl (Txt.slice x none (some (k : Int))) = (cl x).take k := by
  rw [cl_slice, clip_nat, Int.toNat_natCast]
  exact take_min (cl x) k _ (cl_len x)
theorem drop_take (l : List Nat) (k n : Nat) (h : l.length = n) : (l.drop (min k n)).take (n - min k n) = l.drop k := by
  subst h
  rw [List.take_of_length_le (by rw [List.length_drop]; exact Nat.le_refl _)]
  by_cases q : k ≤ l.length
  · rw [Nat.min_eq_left q]
  · have q' := Nat.le_of_lt (Nat.lt_of_not_le q)
    rw [Nat.min_eq_right q', List.drop_of_length_le (Nat.le_refl _), List.drop_of_length_le q']
theorem cl_from (x : Str) (k : Nat) : cl (Txt.slice x (some (k : Int)) none) = (cl x).drop k := by
  rw [cl_slice, clip_nat, Int.toNat_natCast]
  show List.take ((x.length : Int).toNat - _) _ = _
  rw [Int.toNat_natCast]
  exact drop_take (cl x) k _ (cl_len x)
theorem cl_mid (x : Str) (a b : Nat) (hb : b ≤ x.length) : cl (Txt.slice x (some (a : Int)) (some (b : Int))) = ((cl x).drop a).take (b - a) := by
  rw [cl_slice, clip_nat, clip_nat, Int.toNat_natCast, Int.toNat_natCast, Nat.min_eq_left hb]
  by_cases h : a ≤ x.length
  · rw [Nat.min_eq_left h]
  · have h' := Nat.le_of_lt (Nat.lt_of_not_le h)
    rw [Nat.min_eq_right h', List.drop_of_length_le (by rw [cl_len]; exact Nat.le_refl _), List.drop_of_length_le (by rw [cl_len]; exact h')]
    simp
theorem cl_last (x : Str) : cl (Txt.slice x (some (-1)) none) = (cl x).drop (x.length - 1) := by
  rw [cl_slice, clip_neg, Int.toNat_natCast]
  show List.take ((x.length : Int).toNat - _) _ = _
  rw [Int.toNat_natCast, List.take_of_length_le (by rw [List.length_drop, cl_len]; exact Nat.le_refl _)]
theorem cl_init (x : Str) : cl (Txt.slice x none (some (-1))) = (cl x).take (x.length - 1) := by
  rw [cl_slice, clip_neg, Int.toNat_natCast]
  rfl
theorem cl_rev (x : Str) (u : Tok) : cl (Txt.sliceBy x none none (-1, u)) = (cl x).reverse := by
  rw [← fold_front_eq_rev x ⟨#[]⟩ rfl u]
  have : ∀ (l : List Nat) (T : Str), cl (List.foldl (fun (T : Str) (a : Str) => a ++ T) T (l.map fun n => (⟨#[n]⟩ : Str))) = l.reverse ++ cl T := by
    intro l
    induction l with
    | nil => intro T; rfl
    | cons a r ih => intro T; rw [List.map_cons, List.foldl_cons, ih, cl_app, List.reverse_cons, List.append_assoc]
  have e : signs x = (cl x).map fun n => (⟨#[n]⟩ : Str) := by rfl
  rw [e, this]
  show (cl x).reverse ++ [] = _
  rw [List.append_nil]
end Mine
end
section
open PySem PySem.W PyProof.Rows PySem.Calls PySem.Spec PyProof.V PyProof.Rows.LCg
set_option maxHeartbeats 2000000
namespace Mine
noncomputable def JTurn (prog : Program) (w : World) (A : Around) (h₀ : Heap) (L : Addr) (m : Str → Option Value) (env : Env) (elt : PySem.Expr) (ifs : List PySem.Expr) (scope : Scope) (cl : List (Str × Addr)) (s : Shared) (news : List (Addr × Obj)) (n : Nat) (J : Nat → List Value → Prop) (Bd : Nat → (Str → Option Value) → Prop) : Prop :=
  ∀ C D i ys m₂ oC h tk own (E' : Value → Shared → Prop), i < n → J i ys → Bd i m₂ → NsObj oC m₂ → Fr h₀ L h m → News h₀ L h ((C, oC) :: (D, lst ys) :: (news ++ own)) →
      wpAny (model prog w) A (tests ifs (compEnvC scope cl C env)) (fun ok s₃ => if ok = true then wpAny (model prog w) A (eval elt (compEnvC scope cl C env)) (ElEnd h₀ L m C D ys (news ++ own) (fun _ => True) (J (i + 1)) s) E' s₃
        else JEnd h₀ L m C D (news ++ own) (fun _ => True) (J (i + 1)) s s₃) E' { s with heap := h, toks := tk }
section
variable {prog : Program} {w : World} {A : Around} {E : Value → Shared → Prop} {s : Shared} {h₀ : Heap} {L : Addr} {m : Str → Option Value} {env : Env} {elt : PySem.Expr} {ifs : List PySem.Expr} {scope : Scope} {cl : List (Str × Addr)} {Fin : Shared → Addr → List Value → List (Addr × Obj) → Prop} {news : List (Addr × Obj)}
theorem comp_str {x : Str} {tx : Tok} {nx : Str} {px : Pos} (hh : A.handled = none) (F : Fr h₀ L s.heap m) (N : News h₀ L s.heap news) (hx : scope.names.lookup nx = some .local) (hkind : scope.kind = .function)
    (J : Nat → List Value → Prop) (hJ : J 0 []) (hlen : ∀ i ys, i < x.length → J i ys → ys.length ≤ sizeLine)
    (turn : JTurn prog w A h₀ L m env elt ifs scope cl s news x.length J (fun i m₂ => ∃ c t, (Mine.cl x)[i]? = some c ∧ m₂ nx = some (.str ⟨#[c]⟩ t)))
    (done : ∀ g D ys, J x.length ys → (∀ p ∈ news, p.1 < D) → Fin { s with heap := g } D ys news) :
    wpAny (model prog w) A (pyIter (.str x tx)) (fun it s₂ => CompAt prog w A h₀ L m env (.Name nx px) elt ifs scope cl Fin it s₂) E s := by
  refine wpAny_pyIter_str fun o St hW hst => ?_
  have W := hW A hh
  refine ⟨[s.heap.objs.size], [s.heap.objs.size], x.cps.size, fun i m => ∃ v, SignAt x i v ∧ m nx = some v, St, news, J, fun C hC => CWalk.name W hC (lookup_relabel_local hx) (by simp [compEnvC, relabel, hkind]) (fun _ _ _ => trivial), ?_, ?_, ?_, ?_, ?_, hst, F.push _, fun p hp => ⟨Heap.get?_push_of_some _ (N p hp).1, (N p hp).2⟩, hJ, hlen, ?_, ?_⟩
  · intro b hb
    rw [List.mem_singleton.mp hb]
    show _ < (s.heap.push o).objs.size
    rw [Heap.size_push]; exact Nat.lt_succ_self _
  · exact fun hm => absurd F.ns.lt ((List.mem_singleton.mp hm) ▸ Nat.lt_irrefl _)
  · intro b hb
    rw [List.mem_singleton.mp hb]
    exact next_is_new F
  · intro p hp hI
    exact absurd (Heap.lt_size (N p hp).1) ((List.mem_singleton.mp hI) ▸ Nat.lt_irrefl _)
  · exact fun b hb => .inl hb
  · intro C D i ys m₂ oC h tk own E' hi hJi hB hoC F₂ N₂
    refine turn C D i ys m₂ oC h tk own E' hi hJi ?_ hoC F₂ N₂
    obtain ⟨v, ⟨c, t, hc, rfl⟩, hm⟩ := hB
    exact ⟨c, t, by rw [← hc]; exact Array.getElem?_toList, hm⟩
  · exact fun D ys hJn hlt => done _ D ys hJn hlt
theorem comp_range {r : Addr} {a b : Int} {t u v : Tok} {n : Nat} {nx : Str} {px : Pos} (hh : A.handled = none) (F : Fr h₀ L s.heap m) (N : News h₀ L s.heap news) (hr : IsRange s.heap r a b 1 t u v) (hsm : Builtin.Range.small a b 1 = true) (hn : Builtin.Range.rangeSize a b 1 = ((n : Nat) : Int))
    (hx : scope.names.lookup nx = some .local) (hkind : scope.kind = .function)
    (J : Nat → List Value → Prop) (hJ : J 0 []) (hlen : ∀ i ys, i < n → J i ys → ys.length ≤ sizeLine)
    (turn : JTurn prog w A h₀ L m env elt ifs scope cl s news n J (fun i m₂ => ∃ t, m₂ nx = some (.int (a + (i : Int)) t)))
    (done : ∀ g D ys, J n ys → (∀ p ∈ news, p.1 < D) → Fin { s with heap := g } D ys news) :
    wpAny (model prog w) A (pyIter (.ref r)) (fun it s₂ => CompAt prog w A h₀ L m env (.Name nx px) elt ifs scope cl Fin it s₂) E s := by
  refine wpAny_pyIter_range hr hsm ?_
  refine ⟨[s.heap.objs.size], [s.heap.objs.size], n, _, _, news, J, fun C hC => CWalk.name (range_walks hh a n) hC (lookup_relabel_local hx) (by simp [compEnvC, relabel, hkind]) (fun _ _ _ => trivial), ?_, ?_, ?_, ?_, ?_, (by show IsRangeIter _ _ _ _ _; rw [hn]; simpa using Heap.get?_push_size _ rfl), F.push _, fun p hp => ⟨Heap.get?_push_of_some _ (N p hp).1, (N p hp).2⟩, hJ, hlen, ?_, ?_⟩
  · intro b hb
    rw [List.mem_singleton.mp hb]
    show _ < (s.heap.push _).objs.size
    rw [Heap.size_push]; exact Nat.lt_succ_self _
  · exact fun hm => absurd F.ns.lt ((List.mem_singleton.mp hm) ▸ Nat.lt_irrefl _)
  · intro b hb
    rw [List.mem_singleton.mp hb]
    exact next_is_new F
  · intro p hp hI
    exact absurd (Heap.lt_size (N p hp).1) ((List.mem_singleton.mp hI) ▸ Nat.lt_irrefl _)
  · exact fun b hb => .inl hb
  · intro C D i ys m₂ oC h tk own E' hi hJi hB hoC F₂ N₂
    refine turn C D i ys m₂ oC h tk own E' hi hJi ?_ hoC F₂ N₂
    obtain ⟨v, ⟨t, rfl⟩, hm⟩ := hB
    exact ⟨t, hm⟩
  · exact fun D ys hJn hlt => done _ D ys hJn hlt
theorem comp_list {ax : Addr} {its : Array Value} {nx : Str} {px : Pos} (hh : A.handled = none) (F : Fr h₀ L s.heap m) (N : News h₀ L s.heap news) (S : SrcAt h₀ ax its news) 
    (hx : scope.names.lookup nx = some .local) (hkind : scope.kind = .function)
    (J : Nat → List Value → Prop) (hJ : J 0 []) (hlen : ∀ i ys, i < its.size → J i ys → ys.length ≤ sizeLine)
    (turn : JTurn prog w A h₀ L m env elt ifs scope cl s news its.size J (fun i m₂ => ∃ v, its[i]? = some v ∧ m₂ nx = some v))
    (done : ∀ g D ys, J its.size ys → (∀ p ∈ news, p.1 < D) → Fin { s with heap := g } D ys news) :
    wpAny (model prog w) A (pyIter (.ref ax)) (fun it s₂ => CompAt prog w A h₀ L m env (.Name nx px) elt ifs scope cl Fin it s₂) E s := by
  have hl := S.list F.keep N
  have hlt : ax < s.heap.objs.size := by obtain ⟨_, e, _⟩ := hl; exact Heap.lt_size e
  refine wpAny_pyIter_list hl ?_
  refine ⟨[s.heap.objs.size], [s.heap.objs.size, ax], its.size, _, _, news, J, fun C hC => CWalk.name (Walks.list hh s.heap.objs.size ax (Nat.ne_of_lt hlt) its) hC (lookup_relabel_local hx) (by simp [compEnvC, relabel, hkind]) (fun _ _ _ => trivial), ?_, ?_, ?_, ?_, ?_, ⟨⟨_, Heap.get?_push_size _ rfl, rfl, rfl⟩, hl.push _⟩, F.push _, fun p hp => ⟨Heap.get?_push_of_some _ (N p hp).1, (N p hp).2⟩, hJ, hlen, ?_, ?_⟩
  · intro b hb
    show _ < (s.heap.push _).objs.size
    rw [Heap.size_push]
    rcases List.mem_cons.mp hb with rfl | hb
    · exact Nat.lt_succ_self _
    · rw [List.mem_singleton.mp hb]; exact Nat.lt_succ_of_lt hlt
  · exact fun hm => absurd F.ns.lt ((List.mem_singleton.mp hm) ▸ Nat.lt_irrefl _)
  · intro b hb
    rw [List.mem_singleton.mp hb]
    exact next_is_new F
  · intro p hp hI
    exact absurd (Heap.lt_size (N p hp).1) ((List.mem_singleton.mp hI) ▸ Nat.lt_irrefl _)
  · intro b hb
    rcases List.mem_cons.mp hb with rfl | hb
    · exact .inl (List.mem_singleton.mpr rfl)
    · rw [List.mem_singleton.mp hb]
      rcases S with ⟨o, e, _⟩ | ⟨o, hm, _⟩
      · exact .inr (.inl ⟨o, e⟩)
      · exact .inr (.inr ⟨o, hm⟩)
  · intro C D i ys m₂ oC h tk own E' hi hJi hB hoC F₂ N₂
    exact turn C D i ys m₂ oC h tk own E' hi hJi hB hoC F₂ N₂
  · exact fun D ys hJn hlt => done _ D ys hJn hlt
theorem comp_enum {x : Str} {tx : Tok} {nk nx : Str} {pk px pt : Pos} {k1 : Nat} (hh : A.handled = none) (F : Fr h₀ L s.heap m) (N : News h₀ L s.heap news) (hk : scope.names.lookup nk = some .local) (hx : scope.names.lookup nx = some .local) (hkx : nk ≠ nx) (hkind : scope.kind = .function)
    (J : Nat → List Value → Prop) (hJ : J 0 []) (hlen : ∀ i ys, i < x.length → J i ys → ys.length ≤ sizeLine)
    (turn : JTurn prog w A h₀ L m env elt ifs scope cl s news x.length J (fun i m₂ => ∃ c t u, (Mine.cl x)[i]? = some c ∧ m₂ nk = some (.int (i : Int) u) ∧ m₂ nx = some (.str ⟨#[c]⟩ t)))
    (done : ∀ g D ys, J x.length ys → (∀ p ∈ news, p.1 < D) → Fin { s with heap := g } D ys news) :
    wpAny (model prog w) A (call (.type "enumerate") [.str x tx]) (fun xv s₁ => wpAny (model prog w) A (pyIter xv) (fun it s₂ => CompAt prog w A h₀ L m env (.Tuple [.Name nk pk, .Name nx px] k1 pt) elt ifs scope cl Fin it s₂) E s₁) E s := by
  have hLs : L < s.heap.objs.size := F.ns.lt
  have hab : h₀.objs.size ≤ L := F.above
  refine call_enumerate_str fun h' he hit hsz hkp => ?_
  refine wpAny_pyIter_enum (i := 0) he ?_
  have F' : Fr h₀ L h' m := ⟨F.ns.keeps hkp, fun b o e => hkp b o (F.keep b o e), F.above⟩
  have N' : News h₀ L h' news := fun p hp => ⟨hkp _ _ (N p hp).1, (N p hp).2⟩
  have fin : ∀ (St : Nat → Heap → Prop), Draws prog w A.in1 s.heap.objs.size [s.heap.objs.size] x.cps.size (fun i v => ∃ c u, x.cps[i]? = some c ∧ v = .str ⟨#[c]⟩ u) St → St 0 h' →
      CompAt prog w A h₀ L m env (.Tuple [.Name nk pk, .Name nx px] k1 pt) elt ifs scope cl Fin (.ref (s.heap.objs.size + 1)) { s with heap := h' } := by
    intro St DW hst
    have W := WalksT.enumerateD DW (s.heap.objs.size + 1) (Nat.succ_ne_self _) (fun hm => Nat.succ_ne_self _ (List.mem_singleton.mp hm)) (by simp)
    refine ⟨[s.heap.objs.size + 1, s.heap.objs.size], [s.heap.objs.size + 1, s.heap.objs.size], x.cps.size, _, _, news, J, fun C hC => CWalk.pair (P := fun i a b => ∃ t c u, x.cps[i]? = some c ∧ a = .int (i : Int) t ∧ b = .str ⟨#[c]⟩ u) W hh (fun i vs hv => ?_) hC (lookup_relabel_local hk) (lookup_relabel_local hx) hkx (by simp [compEnvC, relabel, hkind]) (fun _ _ _ => trivial) (fun _ _ _ => trivial), ?_, ?_, ?_, ?_, ?_, ⟨⟨_, he⟩, hst⟩, F', N', hJ, hlen, ?_, ?_⟩
    · obtain ⟨t, y, ⟨c, u, hc, rfl⟩, rfl⟩ := hv
      exact ⟨_, _, rfl, t, c, u, hc, rfl, rfl⟩
    · intro b hb
      show b < h'.objs.size
      rw [hsz]
      rcases List.mem_cons.mp hb with rfl | hb
      · exact Nat.lt_succ_self _
      · rw [List.mem_singleton.mp hb]; exact Nat.lt_succ_of_lt (Nat.lt_succ_self _)
    · intro hm
      rcases List.mem_cons.mp hm with e | hm
      · exact Nat.ne_of_lt (Nat.lt_succ_of_lt hLs) e
      · exact Nat.ne_of_lt hLs (List.mem_singleton.mp hm)
    · intro b hb
      rcases List.mem_cons.mp hb with rfl | hb
      · exact Heap.get?_none_of_le (Nat.le_trans hab (Nat.le_of_lt (Nat.lt_succ_of_lt hLs)))
      · rw [List.mem_singleton.mp hb]; exact Heap.get?_none_of_le (Nat.le_trans hab (Nat.le_of_lt hLs))
    · intro p hp hI
      have hp1 : p.1 < s.heap.objs.size := Heap.lt_size (N p hp).1
      rcases List.mem_cons.mp hI with e | hm
      · exact Nat.ne_of_lt (Nat.lt_succ_of_lt hp1) e
      · exact Nat.ne_of_lt hp1 (List.mem_singleton.mp hm)
    · exact fun b hb => .inl hb
    · intro C D i ys m₂ oC h tk own E' hi hJi hB hoC F₂ N₂
      refine turn C D i ys m₂ oC h tk own E' hi hJi ?_ hoC F₂ N₂
      obtain ⟨a, b, ⟨t, c, u, hc, rfl, rfl⟩, h1, h2⟩ := hB
      exact ⟨c, u, t, by rw [← hc]; exact Array.getElem?_toList, h1, h2⟩
    · exact fun D ys hJn hlt => done _ D ys hJn hlt
  cases ha : x.cps.all (· < 128)
  · have hit' : h'.IsStrIter s.heap.objs.size "str_iterator" x tx 0 := by simpa [strIterType, ha] using hit
    exact fin _ (Draws.strWide (A := A.in1) hh s.heap.objs.size x tx) hit'
  · have hit' : h'.IsStrIter s.heap.objs.size "str_ascii_iterator" x tx 0 := by simpa [strIterType, ha] using hit
    exact fin _ (Draws.strAscii (A := A.in1) hh s.heap.objs.size x tx) hit'
end
end Mine
end
section
open PySem PySem.W PyProof.Rows PySem.Calls PySem.Spec PyProof.V PyProof.Rows.LCg
set_option maxHeartbeats 2000000
namespace Mine
set_option genSizeOf false in
set_option genInjectivity false in
structure FWalk (prog : Program) (w : World) (A : Around) (h₀ : Heap) (env : Env) (target : PySem.Expr) (it : Value) (wr fp : List Addr) (n : Nat) (adr : List Addr) (Ok : List (Addr × Obj) → Prop) (Bd : Nat → (Str → Option Value) → List (Addr × Obj) → (Str → Option Value) → List (Addr × Obj) → Prop) (St : Nat → Heap → Prop) : Prop where
  sub : ∀ b ∈ wr, b ∈ fp
  frame : ∀ i h h', St i h → (∀ b ∈ fp, ∀ o, h.get? b = some o → h'.get? b = some o) → St i h'
  item : ∀ i (s : Shared) m nx (Q : Shared → Prop) (E : Value → Shared → Prop), i < n → St i s.heap → Fr h₀ env.locals s.heap m → News h₀ env.locals s.heap nx → nx.map (·.1) = adr → Ok nx →
    (∀ h₃ tk₃ m₃ nx₃, St (i + 1) h₃ → Fr h₀ env.locals h₃ m₃ → News h₀ env.locals h₃ nx₃ → nx₃.map (·.1) = adr → Bd i m nx m₃ nx₃ → Q { s with heap := h₃, toks := tk₃ }) →
    wpAny (model prog w) A (pyNext it) (fun r s₁ => ∃ v, r = some v ∧ wpAny (model prog w) A (letOwnedTupleGo target it v) (fun _ s₁' => wpAny (model prog w) A (assign target env v) (fun _ s₂ => Q s₂) E s₁') E s₁) E s
  done : ∀ (s : Shared) (Q : Shared → Prop) (E : Value → Shared → Prop), St n s.heap → (∀ h' tk, (∀ b o, b ∉ wr → s.heap.get? b = some o → h'.get? b = some o) → Q { s with heap := h', toks := tk }) → wpAny (model prog w) A (pyNext it) (fun r s₁ => r = none ∧ Q s₁) E s
theorem FWalk.name {prog : Program} {w : World} {A : Around} {h₀ : Heap} {env : Env} {x : Str} {px : Pos} {I : Addr} {wr fp : List Addr} {n : Nat} {adr : List Addr} {P : Nat → Value → Prop} {St : Nat → Heap → Prop}
    (W : Walks prog w A I fp wr n P St) (hx : env.kindOf x = some .local) (hp : (env.scope.kind == .class || (env.scope.kind == .module && env.locals != env.globals)) = false)
    (hL : env.locals ∉ fp) (hadr : ∀ a ∈ adr, a ∉ wr) (hw₀ : ∀ b ∈ wr, h₀.get? b = none) :
    FWalk prog w A h₀ env (.Name x px) (.ref I) wr fp n adr (fun _ => True) (fun i m nx m₃ nx₃ => ∃ v, P i v ∧ m₃ = (fun y => if y = x then some v else m y) ∧ nx₃ = nx) St where
  sub := W.sub
  frame := W.frame
  item := fun i s m nx Q E hi hst F N ha _ hQ => by
    refine W.item i _ _ _ hi hst fun v h₁ tk₁ hP st₁ hk₁ => ⟨v, rfl, wpAny_pure ?_⟩
    have F₁ : Fr h₀ env.locals h₁ m := ⟨F.ns.at' fun o e => hk₁ _ o (fun q => hL (W.sub _ q)) e, fun b o e => hk₁ b o (fun q => by rw [hw₀ b q] at e; cases e) (F.keep b o e), F.above⟩
    have N₁ : News h₀ env.locals h₁ nx := fun p hp => ⟨hk₁ _ _ (hadr _ (ha ▸ List.mem_map_of_mem hp)) (N p hp).1, (N p hp).2⟩
    refine wpAny_assign_Name (wpAny_storeName_local hx F₁.ns (fun h₂ hn₂ hs₂ => ?_) hp)
    exact hQ h₂ _ _ nx (W.frame _ _ _ st₁ fun b hb o e => hs₂.extBut b o (fun q => hL (q ▸ hb)) e) (F₁.set hn₂ hs₂) (N₁.set hs₂) ha ⟨v, hP, rfl, rfl⟩
  done := fun s Q E hst hQ => W.done _ _ _ hst fun h' tk hk => ⟨rfl, hQ h' tk hk⟩
theorem FWalk.cell {prog : Program} {w : World} {A : Around} {h₀ : Heap} {env : Env} {x : Str} {px : Pos} {I c : Addr} {wr fp : List Addr} {n : Nat} {adr : List Addr} {P : Nat → Value → Prop} {St : Nat → Heap → Prop}
    (W : Walks prog w A I fp wr n P St) (hk : env.scope.kind = .function) (hx : env.kindOf x = some .cell) (hcl : env.cells.lookup x = some c)
    (hL : env.locals ∉ fp) (hcf : c ∉ fp) (hadr : ∀ a ∈ c :: adr, a ∉ wr) (hca : ∀ a ∈ adr, a ≠ c) (hw₀ : ∀ b ∈ wr, h₀.get? b = none)  :
    FWalk prog w A h₀ env (.Name x px) (.ref I) wr fp n (c :: adr) (fun nx => ∃ o u rest, nx = (c, o) :: rest ∧ o.data = .cell u)
      (fun i m nx m₃ nx₃ => ∃ v o o' rest, P i v ∧ m₃ = m ∧ nx = (c, o) :: rest ∧ nx₃ = (c, o') :: rest ∧ o'.data = .cell (some v)) St where
  sub := W.sub
  frame := W.frame
  item := fun i s m nx Q E hi hst F N ha hok hQ => by
    obtain ⟨o, u, rest, rfl, ho⟩ := hok
    rw [List.map_cons] at ha
    have ha' := (List.cons.inj ha).2
    refine W.item i _ _ _ hi hst fun v h₁ tk₁ hP st₁ hk₁ => ⟨v, rfl, wpAny_pure ?_⟩
    have F₁ : Fr h₀ env.locals h₁ m := ⟨F.ns.at' fun o e => hk₁ _ o (fun q => hL (W.sub _ q)) e, fun b o e => hk₁ b o (fun q => by rw [hw₀ b q] at e; cases e) (F.keep b o e), F.above⟩
    have N₁ : News h₀ env.locals h₁ ((c, o) :: rest) := fun p hp => ⟨hk₁ _ _ (hadr _ (ha ▸ List.mem_map_of_mem (f := (·.1)) hp)) (N p hp).1, (N p hp).2⟩
    have hc := N₁ (c, o) (List.mem_cons_self ..)
    refine wpAny_assign_Name (wpAny_storeName_cell hk hx hcl ⟨o, hc.1, ho⟩ fun h₂ hc₂ hs₂ => ?_)
    obtain ⟨o', ho', hd'⟩ := hc₂
    refine hQ h₂ _ m ((c, o') :: rest) (W.frame _ _ _ st₁ fun b hb o e => hs₂.extBut b o (fun q => hcf (q ▸ hb)) e) (F₁.change hs₂ hc.2.1 hc.2.2) (fun p hp => ?_) (by rw [List.map_cons, ha']) ⟨v, o, o', rest, hP, rfl, rfl, rfl, hd'⟩
    rcases List.mem_cons.mp hp with rfl | hp
    · exact ⟨ho', hc.2⟩
    · have z := N₁ p (List.mem_cons_of_mem _ hp)
      exact ⟨hs₂.extBut _ _ (hca _ (ha' ▸ List.mem_map_of_mem (f := (·.1)) hp)) z.1, z.2⟩
  done := fun s Q E hst hQ => W.done _ _ _ hst fun h' tk hk => ⟨rfl, hQ h' tk hk⟩
noncomputable def JFEnd (h₀ : Heap) (L : Addr) (own : List (Addr × Obj)) (J : (Str → Option Value) → List (Addr × Obj) → Prop) (s s₃ : Shared) : Prop :=
  ∃ h tk m nx, s₃ = { s with heap := h, toks := tk } ∧ Fr h₀ L h m ∧ News h₀ L h (nx ++ own) ∧ J m nx
noncomputable def FlowEnd (h₀ : Heap) (L : Addr) (own : List (Addr × Obj)) (J : (Str → Option Value) → List (Addr × Obj) → Prop) (Q : Flow → Shared → Prop) (s : Shared) (f : Flow) (s₃ : Shared) : Prop :=
  match f with
  | .next | .cont => JFEnd h₀ L own J s s₃
  | .brk => Q .next s₃
  | .ret v => Q (.ret v) s₃
noncomputable def ForAt (prog : Program) (w : World) (A : Around) (h₀ : Heap) (env : Env) (target : PySem.Expr) (body orelse : List Stmt) (Q : Flow → Shared → Prop) (E : Value → Shared → Prop) (it : Value) (s : Shared) : Prop :=
  ∃ (wr fp : List Addr) (n : Nat) (adr : List Addr) (Ok : List (Addr × Obj) → Prop) (Bd : Nat → (Str → Option Value) → List (Addr × Obj) → (Str → Option Value) → List (Addr × Obj) → Prop) (St : Nat → Heap → Prop) (J : Nat → (Str → Option Value) → List (Addr × Obj) → Prop) (m : Str → Option Value) (nx : List (Addr × Obj)) (fix : List (Addr × Obj)),
    FWalk prog w A h₀ env target it wr fp n adr Ok Bd St ∧ env.locals ∉ wr ∧ (∀ b ∈ wr, h₀.get? b = none) ∧ (∀ a ∈ adr, a ∉ wr) ∧ (∀ b ∈ fp, b ∈ wr ∨ (∃ o, h₀.get? b = some o) ∨ ∃ o, (b, o) ∈ fix) ∧ St 0 s.heap ∧ Fr h₀ env.locals s.heap m ∧ News h₀ env.locals s.heap nx ∧ J 0 m nx ∧
    (∀ i m nx, J i m nx → nx.map (·.1) = adr ∧ Ok nx ∧ (∀ p ∈ fix, p ∈ nx)) ∧
    (∀ i m nx m₃ nx₃, Bd i m nx m₃ nx₃ → (∀ p ∈ fix, p ∈ nx) → ∀ p ∈ fix, p ∈ nx₃) ∧
    (∀ i m nx m₁ nx₁ h tk own, i < n → (∀ p ∈ own, p.1 ∉ adr) → J i m nx → Bd i m nx m₁ nx₁ → Fr h₀ env.locals h m₁ → News h₀ env.locals h (nx₁ ++ own) →
      wpAny (model prog w) A (execs body env) (FlowEnd h₀ env.locals own (J (i + 1)) Q s) E { s with heap := h, toks := tk }) ∧
    (∀ h tk m nx, J n m nx → Fr h₀ env.locals h m → News h₀ env.locals h nx → wpAny (model prog w) A (execs orelse env) (fun f s₃ => Q f s₃) E { s with heap := h, toks := tk })
section
variable {prog : Program} {w : World} {A : Around} {s : Shared} {h₀ : Heap} {env : Env} {target : PySem.Expr} {body orelse : List Stmt}
theorem loop_F {R : Result → Shared → Prop} {it : Value} {Q : Flow → Shared → Prop} (hQ : ∀ f s', Q f s' → R (.ok f) s')
    (H : ForAt prog w A h₀ env target body orelse Q (notedBy (model prog w) A env fun e s' => R (.error e) s') it s) :
    codeAny (model prog w) A (.forLoop target it body orelse env) R s := by
  obtain ⟨wr, fp, n, adr, Ok, Bd, St, J, m, nx, fix, W, hLw, hw₀, haw, hfpk, hst, F, N, hJ, hJa, hBf, turn, done⟩ := H
  refine codeAny_forLoop_any (fun k s' => ∃ h tk i m nx, s' = { s with heap := h, toks := tk } ∧ i ≤ n ∧ k = n + 1 - i ∧ St i h ∧ Fr h₀ env.locals h m ∧ News h₀ env.locals h nx ∧ J i m nx) ?_ (n + 1)
    ⟨s.heap, s.toks, 0, m, nx, rfl, Nat.zero_le _, rfl, hst, F, N, hJ⟩
  rintro k s' ⟨h, tk, i, m, nx, rfl, hi, rfl, st', F', N', hJ'⟩
  by_cases hlt : i < n
  · refine wpAny_mono (W.item i _ m nx (fun s₂ => wpAny (model prog w) A (execs body env) (fun f s₃ => match f with
            | .next | .cont => ∃ m', m' < n + 1 - i ∧ ∃ h tk i m nx, s₃ = { s with heap := h, toks := tk } ∧ i ≤ n ∧ m' = n + 1 - i ∧ St i h ∧ Fr h₀ env.locals h m ∧ News h₀ env.locals h nx ∧ J i m nx
            | .brk => R (.ok .next) s₃
            | .ret v => R (.ok (.ret v)) s₃) (notedBy (model prog w) A env fun e s' => R (.error e) s') s₂) (notedBy (model prog w) A env fun e s' => R (.error e) s') hlt st' F' N' (hJa _ _ _ hJ').1 (hJa _ _ _ hJ').2.1 ?_) ?_ fun _ _ e => e
    · intro h₃ tk₃ m₃ nx₃ st₃ F₃ N₃ ha₃ hb₃
      have hfix := hBf _ _ _ _ _ hb₃ (hJa _ _ _ hJ').2.2
      have Nown : News h₀ env.locals h₃ (ownOf h₀ wr h₃) := news_ownOf hLw
      have N₄ : News h₀ env.locals h₃ (nx₃ ++ ownOf h₀ wr h₃) := fun p hp => (List.mem_append.mp hp).elim (N₃ p) (Nown p)
      refine wpAny_mono (turn i m nx m₃ nx₃ h₃ tk₃ _ hlt (fun p hp ha => haw _ ha (own_sub p hp)) hJ' hb₃ F₃ N₄) (fun f s₃ hf => ?_) fun _ _ e => e
      have back : JFEnd h₀ env.locals (ownOf h₀ wr h₃) (J (i + 1)) s s₃ → ∃ m', m' < n + 1 - i ∧ ∃ h tk i m nx, s₃ = { s with heap := h, toks := tk } ∧ i ≤ n ∧ m' = n + 1 - i ∧ St i h ∧ Fr h₀ env.locals h m ∧ News h₀ env.locals h nx ∧ J i m nx := by
        rintro ⟨h₅, tk₅, m₅, nx₅, rfl, F₅, N₅, hJ₅⟩
        refine ⟨n + 1 - (i + 1), by omega, h₅, tk₅, i + 1, m₅, nx₅, rfl, hlt, rfl, ?_, F₅, fun p hp => N₅ p (List.mem_append_left _ hp), hJ₅⟩
        refine W.frame _ _ _ st₃ fun b hb o e => ?_
        rcases hfpk b hb with q | ⟨o', q⟩ | ⟨o', q⟩
        · exact (N₅ (b, o) (List.mem_append_right _ (mem_ownOf q (hw₀ b q) e))).1
        · have := F₃.keep b o' q
          rw [e] at this
          cases this
          exact F₅.keep b _ q
        · have := (N₃ _ (hfix _ q)).1
          rw [e] at this
          cases this
          exact (N₅ (b, _) (List.mem_append_left _ ((hJa _ _ _ hJ₅).2.2 _ q))).1
      cases f with
      | next => exact back hf
      | cont => exact back hf
      | brk => exact hQ _ _ hf
      | ret v => exact hQ _ _ hf
    · rintro r s₁ ⟨v, rfl, hq⟩
      exact hq
  · obtain rfl : i = n := Nat.le_antisymm hi (Nat.not_lt.mp hlt)
    refine wpAny_mono (W.done _ (fun s₁ => wpAny (model prog w) A (execs orelse env) (fun f s₃ => R (.ok f) s₃) (notedBy (model prog w) A env fun e s' => R (.error e) s') s₁) _ st' fun h₂ tk₂ hk₂ => ?_) ?_ fun _ _ e => e
    · exact wpAny_mono (done h₂ tk₂ m nx hJ' ⟨F'.ns.at' fun o e => hk₂ _ o hLw e, fun b o e => hk₂ b o (fun q => by rw [hw₀ b q] at e; cases e) (F'.keep b o e), F'.above⟩ (fun p hp => ⟨hk₂ _ _ (haw _ ((hJa _ _ _ hJ').1 ▸ List.mem_map_of_mem (f := (·.1)) hp)) (N' p hp).1, (N' p hp).2⟩))
        (fun f s₃ q => hQ _ _ q) fun _ _ e => e
    · rintro r s₁ ⟨rfl, hq⟩
      exact hq
theorem For_J {Q : Flow → Shared → Prop} {E : Value → Shared → Prop} {iter : PySem.Expr} {pos : Pos} {m₀ : Str → Option Value} (_F : Fr h₀ env.locals s.heap m₀)
    (h : wpAny (model prog w) A (eval iter env) (fun xv s₁ => wpAny (model prog w) A (pyIter xv) (fun it s₂ => ForAt prog w A h₀ env target body orelse Q E it s₂) E s₁) E s)
    (hs : ∀ x, foldedSetIterable iter env x = pure x)
    (hE : PassesOwn (model prog w) A env E) :
    wpAny (model prog w) A (exec (.For target iter body orelse pos) env) Q E s := by
  refine wpAny_For (wpAny_mono h (fun xv s₁ h₁ => wpAny_mono h₁ (fun it s₂ h₂ => ?_) fun _ _ e => e) fun _ _ e => e) hs
  refine loop_F (h₀ := h₀) (Q := Q) (fun f s' q => q) ?_
  obtain ⟨wr, fp, n, adr, Ok, Bd, St, J, m, nx, fix, W, hLw, hw₀, haw, hfpk, hst, F, N, hJ, hJa, hBf, turn, done⟩ := h₂
  exact ⟨wr, fp, n, adr, Ok, Bd, St, J, m, nx, fix, W, hLw, hw₀, haw, hfpk, hst, F, N, hJ, hJa, hBf, fun i m nx m₁ nx₁ h tk own x1 x2 x3 x4 x5 x6 => wpAny_passesOwn hE (turn i m nx m₁ nx₁ h tk own x1 x2 x3 x4 x5 x6), fun h tk m nx a b c => wpAny_passesOwn hE (done h tk m nx a b c)⟩
end
section
variable {prog : Program} {w : World} {A : Around} {s : Shared} {h₀ : Heap} {env : Env} {body orelse : List Stmt} {E : Value → Shared → Prop} {Q : Flow → Shared → Prop}
theorem for_str_cell {x : Str} {tx : Tok} {nx : Str} {px : Pos} {c : Addr} {oc : Obj} {uc : Option Value} {m₀ : Str → Option Value} {led : List (Addr × Obj)} (hh : A.handled = none) (F : Fr h₀ env.locals s.heap m₀) (N : News h₀ env.locals s.heap ((c, oc) :: led)) (hoc : oc.data = .cell uc) (hkf : env.scope.kind = .function) (hx : env.kindOf nx = some .cell) (hcl : env.cells.lookup nx = some c)
    (hca : ∀ p ∈ led, p.1 ≠ c)
    (J : Nat → (Str → Option Value) → List (Addr × Obj) → Prop) (hJ : J 0 m₀ led) (hadr : ∀ i m l, J i m l → l.map (·.1) = led.map (·.1))
    (turn : ∀ i ch t m l o h tk own, (∀ p ∈ own, p.1 ∉ c :: led.map (·.1)) → (Mine.cl x)[i]? = some ch → J i m l → o.data = .cell (some (.str ⟨#[ch]⟩ t)) → Fr h₀ env.locals h m → News h₀ env.locals h (((c, o) :: l) ++ own) →
      wpAny (model prog w) A (execs body env) (FlowEnd h₀ env.locals own (fun m nx => ∃ o' u l', nx = (c, o') :: l' ∧ o'.data = .cell u ∧ J (i + 1) m l') Q s) E { s with heap := h, toks := tk })
    (done : ∀ h tk m l o, J x.length m l → Fr h₀ env.locals h m → News h₀ env.locals h ((c, o) :: l) → wpAny (model prog w) A (execs orelse env) (fun f s₃ => Q f s₃) E { s with heap := h, toks := tk }) :
    wpAny (model prog w) A (pyIter (.str x tx)) (fun it s₂ => ForAt prog w A h₀ env (.Name nx px) body orelse Q E it s₂) E s := by
  refine wpAny_pyIter_str fun o St hW hst => ?_
  have hI : ∀ b ∈ [s.heap.objs.size], h₀.get? b = none := fun b hb => by rw [List.mem_singleton.mp hb]; exact next_is_new F
  have hL : env.locals ∉ [s.heap.objs.size] := fun hm => absurd F.ns.lt ((List.mem_singleton.mp hm) ▸ Nat.lt_irrefl _)
  have hA : ∀ a ∈ c :: led.map (·.1), a ∉ [s.heap.objs.size] := fun a ha hm => by
    have ha' : a ∈ ((c, oc) :: led).map (·.1) := ha
    obtain ⟨p, hp, rfl⟩ := List.mem_map.mp ha'
    exact absurd (Heap.lt_size (N p hp).1) ((List.mem_singleton.mp hm) ▸ Nat.lt_irrefl _)
  have hcf : c ∉ [s.heap.objs.size] := hA c (List.mem_cons_self ..)
  refine ⟨[s.heap.objs.size], [s.heap.objs.size], x.cps.size, c :: led.map (·.1), _, _, St, fun i m nx => ∃ o' u l', nx = (c, o') :: l' ∧ o'.data = .cell u ∧ J i m l', m₀, (c, oc) :: led, [],
    FWalk.cell (hW A hh) hkf hx hcl hL hcf hA (fun a ha => by obtain ⟨p, hp, rfl⟩ := List.mem_map.mp ha; exact hca p hp) hI, hL, hI, hA, fun b hb => .inl hb, hst, F.push _, fun p hp => ⟨Heap.get?_push_of_some _ (N p hp).1, (N p hp).2⟩, ⟨oc, uc, led, rfl, hoc, hJ⟩,
    ?_, fun i m nx m₃ nx₃ _ _ p hp => (by cases hp), ?_, ?_⟩
  · rintro i m nx ⟨o', u, l', rfl, ho', hj⟩
    exact ⟨by rw [List.map_cons, hadr i m l' hj], ⟨o', u, l', rfl, ho'⟩, fun p hp => by cases hp⟩
  · rintro i m l m₁ l₁ h tk own hi hown ⟨o', u, l', rfl, ho', hj⟩ ⟨v, o₁, o₂, rest, ⟨ch, t, hc, rfl⟩, rfl, e, rfl, hd⟩ F₁ N₁
    cases e
    exact turn i ch t _ l' o₂ h tk own hown (by rw [← hc]; exact Array.getElem?_toList) hj hd F₁ N₁
  · rintro h tk m nx ⟨o', u, l', rfl, ho', hj⟩ F₁ N₁
    exact done h tk m l' o' hj F₁ N₁
theorem for_range {r : Addr} {a b : Int} {t u v : Tok} {n : Nat} {nx : Str} {px : Pos} {m₀ : Str → Option Value} {led : List (Addr × Obj)} (hh : A.handled = none) (F : Fr h₀ env.locals s.heap m₀) (N : News h₀ env.locals s.heap led) (hr : IsRange s.heap r a b 1 t u v) (hsm : Builtin.Range.small a b 1 = true) (hn : Builtin.Range.rangeSize a b 1 = ((n : Nat) : Int))
    (hx : env.kindOf nx = some .local) (hp : (env.scope.kind == .class || (env.scope.kind == .module && env.locals != env.globals)) = false)
    (J : Nat → (Str → Option Value) → List (Addr × Obj) → Prop) (hJ : J 0 m₀ led) (hadr : ∀ i m l, J i m l → l.map (·.1) = led.map (·.1))
    (turn : ∀ i t m l h tk own, (∀ p ∈ own, p.1 ∉ led.map (·.1)) → i < n → J i m l → Fr h₀ env.locals h (fun y => if y = nx then some (.int (a + (i : Int)) t) else m y) → News h₀ env.locals h (l ++ own) →
      wpAny (model prog w) A (execs body env) (FlowEnd h₀ env.locals own (J (i + 1)) Q s) E { s with heap := h, toks := tk })
    (done : ∀ h tk m l, J n m l → Fr h₀ env.locals h m → News h₀ env.locals h l → wpAny (model prog w) A (execs orelse env) (fun f s₃ => Q f s₃) E { s with heap := h, toks := tk }) :
    wpAny (model prog w) A (pyIter (.ref r)) (fun it s₂ => ForAt prog w A h₀ env (.Name nx px) body orelse Q E it s₂) E s := by
  refine wpAny_pyIter_range hr hsm ?_
  have hI : ∀ b ∈ [s.heap.objs.size], h₀.get? b = none := fun b hb => by rw [List.mem_singleton.mp hb]; exact next_is_new F
  have hL : env.locals ∉ [s.heap.objs.size] := fun hm => absurd F.ns.lt ((List.mem_singleton.mp hm) ▸ Nat.lt_irrefl _)
  have hA : ∀ a ∈ led.map (·.1), a ∉ [s.heap.objs.size] := fun a ha hm => by
    obtain ⟨p, hp, rfl⟩ := List.mem_map.mp ha
    exact absurd (Heap.lt_size (N p hp).1) ((List.mem_singleton.mp hm) ▸ Nat.lt_irrefl _)
  refine ⟨[s.heap.objs.size], [s.heap.objs.size], n, led.map (·.1), _, _, _, J, m₀, led, [], FWalk.name (range_walks hh a n) hx hp hL hA hI, hL, hI, hA, fun b hb => .inl hb, (by show IsRangeIter _ _ _ _ _; rw [hn]; simpa using Heap.get?_push_size _ rfl), F.push _, fun p hp => ⟨Heap.get?_push_of_some _ (N p hp).1, (N p hp).2⟩, hJ,
    fun i m l h => ⟨hadr i m l h, trivial, fun p hp => by cases hp⟩, fun i m nx m₃ nx₃ _ _ p hp => (by cases hp), ?_, ?_⟩
  · rintro i m l m₁ l₁ h tk own hi hown hJi ⟨v, ⟨t, rfl⟩, rfl, rfl⟩ F₁ N₁
    exact turn i t m _ h tk own hown hi hJi F₁ N₁
  · exact fun h tk m l hJn F₁ N₁ => done h tk m l hJn F₁ N₁
end
end Mine
end
section
open PySem PySem.W PyProof.Rows PySem.Calls PySem.Spec PyProof.V PyProof.Rows.LCg
set_option maxHeartbeats 2000000
namespace Mine
noncomputable def WEnd (h₀ : Heap) (L : Addr) (news : List (Addr × Obj)) (n : Nat) (J : Nat → (Str → Option Value) → Prop) (s : Shared) (f : Flow) (s₃ : Shared) : Prop :=
  f = .next ∧ ∃ n' h tk m, n' < n ∧ s₃ = { s with heap := h, toks := tk } ∧ Fr h₀ L h m ∧ News h₀ L h news ∧ J n' m
section
variable {prog : Program} {w : World} {A : Around} {s : Shared} {h₀ : Heap} {env : Env} {body : List Stmt} {test : PySem.Expr}
noncomputable def XEnd (h₀ : Heap) (L : Addr) (news : List (Addr × Obj)) (Ex : (Str → Option Value) → Prop) (s s₃ : Shared) : Prop :=
  ∃ h tk m, s₃ = { s with heap := h, toks := tk } ∧ Fr h₀ L h m ∧ News h₀ L h news ∧ Ex m
theorem While_J {Q : Flow → Shared → Prop} {E : Value → Shared → Prop} {pos : Pos} {m₀ : Str → Option Value} {news : List (Addr × Obj)} (F : Fr h₀ env.locals s.heap m₀) (N : News h₀ env.locals s.heap news)
    (J : Nat → (Str → Option Value) → Prop) (Ex : (Str → Option Value) → Prop) (n₀ : Nat) (hJ : J n₀ m₀)
    (turn : ∀ n m h tk (E' : Value → Shared → Prop), J n m → Fr h₀ env.locals h m → News h₀ env.locals h news →
      wpAny (model prog w) A (PySem.isTrue test env (eval test env)) (fun b s₂ => if b = true then wpAny (model prog w) A (execs body env) (WEnd h₀ env.locals news n J s) E' s₂ else XEnd h₀ env.locals news Ex s s₂) E' { s with heap := h, toks := tk })
    (done : ∀ h tk m, Ex m → Fr h₀ env.locals h m → News h₀ env.locals h news → Q .next { s with heap := h, toks := tk }) :
    wpAny (model prog w) A (exec (.While test body [] pos) env) Q E s := by
  refine wpAny_While (codeAny_whileLoop (fun n s' => ∃ h tk m, s' = { s with heap := h, toks := tk } ∧ Fr h₀ env.locals h m ∧ News h₀ env.locals h news ∧ J n m) ?_ n₀ ⟨s.heap, s.toks, m₀, rfl, F, N, hJ⟩)
  rintro n s' ⟨h, tk, m, rfl, F', N', hJ'⟩
  refine wpAny_mono (turn n m h tk _ hJ' F' N') (fun b s₂ hb => ?_) fun _ _ e => e
  cases b with
  | true =>
    simp only [if_true] at hb ⊢
    refine wpAny_mono hb (fun f s₃ hf => ?_) fun _ _ e => e
    obtain ⟨rfl, n', h₅, tk₅, m₅, hlt, rfl, F₅, N₅, hJ₅⟩ := hf
    exact ⟨n', hlt, h₅, tk₅, m₅, rfl, F₅, N₅, hJ₅⟩
  | false =>
    simp only [Bool.false_eq_true, if_false] at hb ⊢
    obtain ⟨h₅, tk₅, m₅, rfl, F₅, N₅, hx⟩ := hb
    exact wpAny_execs_nil (done h₅ tk₅ m₅ hx F₅ N₅)
noncomputable def CutEnd (h₀ : Heap) (L : Addr) (C : (Str → Option Value) → List (Addr × Obj) → Prop) (s : Shared) (f : Flow) (s' : Shared) : Prop :=
  f = .next ∧ ∃ hh tk m nx, s' = { s with heap := hh, toks := tk } ∧ Fr h₀ L hh m ∧ News h₀ L hh nx ∧ C m nx
/-- a cut behind a statement -/
theorem cut_stmt {L : Addr} {M : Model} {t : Sem Flow} {Q : Flow → Shared → Prop} {E : Value → Shared → Prop} {m₀ : Str → Option Value} {news : List (Addr × Obj)} (_F : Fr h₀ L s.heap m₀) (_N : News h₀ L s.heap news) (C : (Str → Option Value) → List (Addr × Obj) → Prop)
    (h : wpAny M A t (CutEnd h₀ L C s) E s)
    (hn : ∀ hh tk m nx, C m nx → Fr h₀ L hh m → News h₀ L hh nx → Q .next { s with heap := hh, toks := tk }) : wpAny M A t Q E s :=
  wpAny_mono h (fun f s' q => by obtain ⟨rfl, hh, tk, m, nx, rfl, F, N, c⟩ := q; exact hn hh tk m nx c F N) fun _ _ x => x
end
end Mine
end
section
open PySem PySem.W PyProof.Rows
set_option maxHeartbeats 8000000
namespace Mine
-- the row beneath the law, and instances of one step alone: so the head is looked at in one step, without the tables of twins (4 times smaller)
set_option synthInstance.maxSize 1 in
open_top hd for PySem.Challenge.rw_wn0054_01.row
theorem hd_said : PySem.Challenge.rw_wn0054_01.wellSaid = true := by kernel_rfl
theorem hd_law (h : PySem.Challenge.rw_wn0054_01.row.Holds) : PySem.Challenge.rw_wn0054_01.Holds := holds_law hd_said fun _ => h
end Mine
end
section
open PySem PySem.W PyProof.Rows
set_option maxHeartbeats 8000000
namespace Mine
/-- the contract of a def: from any caller's frame, the call of the def at address f with the values vs hands back R -/
abbrev CL (w : World) (mean : ExcName → Option Value) (mg mb : Str → Option Value) (f : Addr) (d u : Nat) (vs : List Value) (R : Tok → Value) : Prop :=
  ∀ (news : List (Addr × Obj)) (dp un : Nat) (gd : Option (List Code)) (cn : Str) (cs : Scope) (a : Addr) (ccd : Value) (cl : List (Str × Addr)) (outer : List Env) (A₀ : Around) (base h₀ : Heap) (L : Addr) (m : Str → Option Value) (s : Shared) (Q E : Value → Shared → Prop),
    Below A₀ base outer h₀ → Fr h₀ L s.heap m → (hd.heap_1 w.params).In h₀ → News h₀ L s.heap news →
    Top hd.view_1 (looseW hd.view_1 [Str.ofString "COMPILER_FLAG_NAMES"]) mean mg mb h₀ → cs.kind = .function → dp + d < recursionLimit → un + u < cLine →
    (∀ (t : Tok) (h' : Heap) (tk' : Nat), Fr h₀ L h' m → News h₀ L h' news → Q (R t) { s with heap := h', toks := tk' }) →
      wpAny (model PySem.Challenge.rw_wn0054_01.row.prog w) (ktrTop dp un gd cn cs L a ccd cl outer) (call (.ref f) vs) Q E s

noncomputable def strcoll (a b : Str) : Int := b2i (decide (b.cps.toList < a.cps.toList)) - b2i (decide (a.cps.toList < b.cps.toList))
theorem c21 (w : World) (mean : ExcName → Option Value) (mg mb : Str → Option Value) (a b : Str) (ta tb : Tok) :
  CL w mean mg mb 21 1 8 [.str a ta, .str b tb] (fun t => .int (strcoll a b) t) := by
  dsimp only [CL]; w_top off; k_with_none; k_fill
  intros; rename_i hret
  refine wpAny_call ?_
  k_dflt cell_enter
  k_steps
  all_goals cb_end hret
end Mine
end
section
open PySem PySem.W PyProof.Rows
namespace Mine
section
variable {prog : Program} {w : World} {A : Around} {R : GenEnd} {Y : Protocol} {n : Nat} {s₀ : Shared} {fs : List PySem.Frame} {s : Shared} {env : Env}

theorem seg_forTurn {target : PySem.Expr} {it : Value} {body orelse : List Stmt}
    (h : wpAny (model prog w) (A.over (.forLoop target it body orelse env) fs) (pyNext it) (fun r s' => match r with
      | none => Seg (model prog w) A R Y n s₀ (.forLoop target it body orelse env) (.pure (.again (.block orelse env))) fs s'
      | some v => wpAny (model prog w) (A.over (.forLoop target it body orelse env) fs) (letOwnedTupleGo target it v) (fun _ s₀' => wpAny (model prog w) (A.over (.forLoop target it body orelse env) fs) (assign target env v) (fun _ s₁ =>
          Seg (model prog w) A R Y n s₀ (.forLoop target it body orelse env) ((execs body env).wrap (fun f => match f with
            | .next | .cont => .pure (.again (.forLoop target it body orelse env))
            | .brk => .pure (.done .next)
            | .ret v => .pure (.done (.ret v))) (fun e => (do noteFrame e env; theTreesLotGoes e : Sem Unit).wrap (fun _ => .raise e) .raise id id) id id) fs s₁) (fun _ _ => False) s₀') (fun _ _ => False) s') (fun _ _ => False) s) :
    Seg (model prog w) A R Y n s₀ (.forLoop target it body orelse env) ((model prog w).den (.forLoop target it body orelse env)) fs s := by
  show Seg _ A R Y n s₀ _ ((forTurn target it body orelse env).onRaise (fun x => do noteFrame x env; theTreesLotGoes x)) fs s
  unfold forTurn
  rw [Sem.onRaise_eq_wrap]
  refine seg_bind_wrap (wpAny_standAt ?_)
  refine seg_bind_wrap (wpAny_onRaise (wpAny_mono h (fun r s' h' => ?_) fun _ _ x => x.elim))
  cases r with
  | none => exact h'
  | some v =>
    refine seg_bind_wrap (wpAny_mono h' (fun _ s₁ h₁ => ?_) fun _ _ x => x.elim)
    refine seg_bind_wrap (wpAny_mono h₁ (fun _ s₂ h₂ => ?_) fun _ _ x => x.elim)
    rw [Sem.bind_eq_wrap', Sem.wrap_wrap]
    rw [Sem.wrap_congr (execs body env) _ _ (K' := fun f => match f with
            | .next | .cont => .pure (.again (.forLoop target it body orelse env))
            | .brk => .pure (.done .next)
            | .ret v => .pure (.done (.ret v))) (H' := (fun e => (do noteFrame e env; theTreesLotGoes e : Sem Unit).wrap (fun _ => .raise e) .raise id id))
        (fun f => by cases f <;> rfl)
        (fun e => by first | exact Sem.bind_eq_wrap _ _ | (show (do noteFrame e env; theTreesLotGoes e : Sem Unit).bind (fun _ => .raise e) = _; rw [Sem.bind_eq_wrap]))]
    exact h₂
theorem seg_If {test : PySem.Expr} {body orelse : List Stmt} {pos : Pos} {c : Code} {K : Flow → Sem Fin} {H : Value → Sem Fin} {gd : Bool → Bool} {lv : List Value → List Value}
    (h : wpAny (model prog w) (A.over c fs) (isTrue test env (eval test env)) (fun b s' => if b = true then Seg (model prog w) A R Y n s₀ c ((execs body env).wrap K H gd lv) fs s' else Seg (model prog w) A R Y n s₀ c ((execs orelse env).wrap K H gd lv) fs s') (fun _ _ => False) s) :
    Seg (model prog w) A R Y n s₀ c ((exec (.If test body orelse pos) env).wrap K H gd lv) fs s := by
  rw [exec_If]
  refine seg_bind_wrap (wpAny_standAt ?_)
  refine seg_bind_wrap (wpAny_mono h (fun b s' h' => ?_) fun _ _ x => x.elim)
  cases b <;> exact h'
theorem seg_plain {st : Stmt} {c : Code} {K : Flow → Sem Fin} {H : Value → Sem Fin} {gd : Bool → Bool} {lv : List Value → List Value}
    (h : wpAny (model prog w) (A.over c fs) (exec st env) (fun f s' => Seg (model prog w) A R Y n s₀ c (K f) fs s') (fun _ _ => False) s) :
    Seg (model prog w) A R Y n s₀ c ((exec st env).wrap K H gd lv) fs s := seg_wrap (wpAny_mono h (fun _ _ x => x) fun _ _ x => x.elim)
end

/-- what stays while the generator sleeps -/
noncomputable def Agree (fz : Addr → Prop) (h h' : Heap) : Prop := ∀ b o, fz b → h.get? b = some o → h'.get? b = some o

set_option genSizeOf false in
set_option genInjectivity false in
/-- what the generator gives out of the rest of the list, with the last interval -/
inductive Gives : List Int → Option Int → List Int → Bool → Prop
  | nil (l : Option Int) : Gives [] l [] true
  | max (r : List Int) (l : Option Int) : Gives (127 :: r) l [] true
  | zero (r : List Int) (y : Int) (k : Nat) : Gives (0 :: r) (some y) (List.replicate k y) false
  | item (x : Int) (r : List Int) (l : Option Int) (its : List Int) (e : Bool) : x ≠ 127 → x ≠ 0 → Gives r (some x) its e → Gives (x :: r) l (x :: its) e

noncomputable def GSince (pr : Addr → Prop) (s₀ s : Shared) : Prop :=
  ∃ h' tk, s = { s₀ with heap := h', toks := tk } ∧ ∀ b o, pr b → s₀.heap.get? b = some o → h'.get? b = some o
theorem GSince.refl (pr : Addr → Prop) (s : Shared) : GSince pr s s := ⟨s.heap, s.toks, rfl, fun _ _ _ q => q⟩
theorem GSince.step {pr : Addr → Prop} {s₀ s : Shared} (x : GSince pr s₀ s) {h' : Heap} {tk : Nat} (hk : ∀ b o, pr b → s.heap.get? b = some o → h'.get? b = some o) : GSince pr s₀ { s with heap := h', toks := tk } := by
  obtain ⟨h₁, tk₁, rfl, hk₁⟩ := x
  exact ⟨h', tk, rfl, fun b o hb q => hk b o hb (hk₁ b o hb q)⟩
noncomputable def fzOf (base : Heap) (C ax I : Addr) (b : Addr) : Prop := (∃ o, base.get? b = some o) ∨ b = C ∨ b = I ∨ b = ax
noncomputable def gY (base : Heap) (pr : Addr → Prop) (C ax : Addr) (its : List Int) (ends : Bool) : Protocol := fun m s₀ v s kap =>
  (∃ t y, its[its.length - 1 - m]? = some y ∧ v = .int y t) ∧ GSince pr s₀ s ∧ ((ends = true ∨ 0 < m) → ∃ I, ¬ pr I ∧ I ≠ C ∧ ∀ s'' : Shared, Agree (fzOf base C ax I) s.heap s''.heap → kap (.send .none) s'')
noncomputable def gR (pr : Addr → Prop) (ends : Bool) : GenEnd := fun n s₀ r s₁ => r = .ok (.ret .none) ∧ (n = 0 ∧ ends = true ∧ GSince pr s₀ s₁)
abbrev nI : Str := Str.ofString "interval"
abbrev nL : Str := Str.ofString "last_interval"
abbrev nM : Str := Str.ofString "CHAR_MAX"
set_option genSizeOf false in
set_option genInjectivity false in
structure GPos where
  (p1 p2 p3 p4 p5 p6 p7 p8 p9 p10 p11 p13 p14 p15 p16 p17 p18 p19 p20 p21 p22 p23 p24 p25 : Pos)
  (k7 k10 k14 : Nat)
abbrev wbody (p : GPos) : List Stmt := [.Expr (.Yield (some (.Name nL p.p15)) p.p16) p.p17]
abbrev gbody (p : GPos) (rb : List Stmt) : List Stmt :=
  [.If (.Compare (.Name nI p.p1) [.Eq] [.Name nM p.p2] p.p3) [.Return none p.p4] [] p.p5,
   .If (.Compare (.Name nI p.p6) [.Eq] [.Constant (.int 0) p.k7 p.p7] p.p8)
     [.If (.Compare (.Name nL p.p9) [.Is] [.Constant .none p.k10 p.p10] p.p11) rb [] p.p13,
      .While (.Constant (.bool true) p.k14 p.p14) (wbody p) [] p.p18] [] p.p19,
   .Expr (.Yield (some (.Name nI p.p20)) p.p21) p.p22,
   .Assign [.Name nL p.p23] (.Name nI p.p24) p.p25]

/-- the last interval as the frame holds it -/
noncomputable def LastIs (v : Value) : Option Int → Prop
  | none => v = .none
  | some y => ∃ t, v = .int y t

set_option genSizeOf false in
set_option genInjectivity false in
structure GSt (base : Heap) (C I ax : Addr) (items : Array Value) (lastv : Value) (i : Nat) (h : Heap) : Prop where
  keep : ∀ b o, base.get? b = some o → h.get? b = some o
  it : h.IsListIter I ax i
  li : h.IsList ax items
  ns : ∃ m, h.Ns C m ∧ m nL = some lastv

set_option genSizeOf false in
set_option genInjectivity false in
structure GEnv (prog : Program) (w : World) (base : Heap) (pr : Addr → Prop) (C I ax : Addr) (env : Env) : Prop where
  pC : ¬ pr C
  pI : ¬ pr I
  CI : C ≠ I
  Cx : C ≠ ax
  xI : ax ≠ I
  bC : base.get? C = none
  bI : base.get? I = none
  loc : env.locals = C
  kf : env.scope.kind = .function
  co : env.scope.isCoroutine = false
  plain : (env.scope.kind == .class || (env.scope.kind == .module && env.locals != env.globals)) = false
  sw : ∀ (t : Option PySem.Expr) (ln : Nat) (q : Pos), swapsWith (.Name nI q) t ln env = pure false
  ia : interactive env = false
  kI : env.kindOf nI = some .local
  kL : env.kindOf nL = some .local
  cm : ∀ (A' : Around) (pos : Pos) (Q : Value → Shared → Prop) (E : Value → Shared → Prop) (s : Shared), (∀ b o, base.get? b = some o → s.heap.get? b = some o) → (∀ t, Q (.int 127 t) s) → wpAny (model prog w) A' (eval (.Name nM pos) env) Q E s

section
variable {prog : Program} {w : World} {base : Heap} {pr : Addr → Prop} {C I ax : Addr} {env : Env} {items : Array Value}
theorem GSt.agree (_G : GEnv prog w base pr C I ax env) {lastv : Value} {i : Nat} {h h' : Heap} (S : GSt base C I ax items lastv i h) (ha : Agree (fzOf base C ax I) h h') : GSt base C I ax items lastv i h' :=
  ⟨fun b o e => ha b o (.inl ⟨o, e⟩) (S.keep b o e), S.it.at fun o e => ha _ o (.inr (.inr (.inl rfl))) e, S.li.at fun o e => ha _ o (.inr (.inr (.inr rfl))) e, let ⟨m, hn, hm⟩ := S.ns; ⟨m, hn.at' fun o e => ha _ o (.inr (.inl rfl)) e, hm⟩⟩
theorem GSt.step (G : GEnv prog w base pr C I ax env) {lastv : Value} {i : Nat} {h h' : Heap} (S : GSt base C I ax items lastv i h) (h1 : h'.IsListIter I ax (i + 1)) (h2 : Heap.SameBut I h h') : GSt base C I ax items lastv (i + 1) h' :=
  ⟨fun b o e => h2.extBut b o (fun q => by rw [q, G.bI] at e; cases e) (S.keep b o e), h1, S.li.extBut h2.extBut G.xI, let ⟨m, hn, hm⟩ := S.ns; ⟨m, hn.at' fun o e => h2.extBut _ o G.CI e, hm⟩⟩
theorem GSt.store (G : GEnv prog w base pr C I ax env) {lastv v : Value} {x : Str} {i : Nat} {h h' : Heap} {m : Str → Option Value} (S : GSt base C I ax items lastv i h) (hn : h'.Ns C m) (hm : m nL = some v) (h2 : Heap.SameBut C h h') : GSt base C I ax items v i h' :=
  ⟨fun b o e => h2.extBut b o (fun q => by rw [q, G.bC] at e; cases e) (S.keep b o e), S.it.at fun o e => h2.extBut _ o (Ne.symm G.CI) e, S.li.extBut h2.extBut (Ne.symm G.Cx), m, hn, hm⟩
end
end Mine
end
section
open PySem PySem.W PyProof.Rows
namespace Mine
section
variable {prog : Program} {w : World} {A : Around} {base : Heap} {pr : Addr → Prop} {C I ax : Addr} {env : Env} {items : Array Value} {fs : List PySem.Frame} {all : List Int}

theorem drop_head {items : Array Value} {i : Nat} {x : Int} {r : List Int} (h : IntsAre (items.toList.drop i) (x :: r)) : ∃ t, items[i]? = some (.int x t) := by
  obtain ⟨t, ht⟩ := h.get 0 x rfl
  refine ⟨t, ?_⟩
  rw [List.getElem?_drop] at ht
  simpa using ht
theorem drop_tail {items : Array Value} {i : Nat} {x : Int} {r : List Int} (h : IntsAre (items.toList.drop i) (x :: r)) : IntsAre (items.toList.drop (i + 1)) r := by
  have := h.drop 1
  rwa [List.drop_drop] at this
theorem split_ret {k : Result → Sem Fin} {hd : Option Value} {g : Bool} {l : List Value} {c : Code} {p : Pos} {kp : List Value} {fs : List PySem.Frame} (h : splitAtGen fs = none) : splitAtGen (.ret k hd g l c p kp :: fs) = none := by
  show (splitAtGen fs).map _ = none
  rw [h]; rfl
theorem ld_loc (G : GEnv prog w base pr C I ax env) {A' : Around} {x : Str} {pos : Pos} {m : Str → Option Value} {v : Value} {Q : Value → Shared → Prop} {E : Value → Shared → Prop} {s : Shared} (hn : s.heap.Ns C m) (hk : env.kindOf x = some .local) (hv : m x = some v) (h : Q v s)
    (hd : (x == ("__debug__" : Str)) = false) : wpAny (model prog w) A' (eval (.Name x pos) env) Q E s :=
  wpAny_Name (wpAny_loadName_local G.kf hk (G.loc ▸ hn) hv h) hd

theorem idx_here (pre : List Int) (y : Int) (r : List Int) (m : Nat) (hm : m = r.length) : (pre ++ y :: r)[(pre ++ y :: r).length - 1 - m]? = some y := by
  subst hm
  have : (pre ++ y :: r).length - 1 - r.length = pre.length := by simp
  rw [this]
  simp
theorem seg_wloop (G : GEnv prog w base pr C I ax env) (p : GPos) (y : Int) {i : Nat} (hgs : splitAtGen fs = none) (hgf : fs.any PySem.Frame.guarded = false) :
    ∀ (k : Nat) (pre : List Int), all = pre ++ List.replicate (k + 1) y → ∀ (lastv : Value) (s₀ s : Shared), LastIs lastv (some y) → GSt base C I ax items lastv i s.heap → GSince pr s₀ s →
      Seg (model prog w) A (gR pr false) (gY base pr C ax all false) (k + 1) s₀ (.whileLoop (.Constant (.bool true) p.k14 p.p14) (wbody p) [] env) ((model prog w).den (.whileLoop (.Constant (.bool true) p.k14 p.p14) (wbody p) [] env)) fs s := by
  intro k
  induction k with
  | zero =>
    intro pre hall lastv s₀ s hl S hs
    refine seg_whileLoop (isTrue_plain (wpAny_Constant_bool (wpAny_truthy_bool ?_)))
    rw [if_pos rfl]
    obtain ⟨m, hn, hm⟩ := S.ns
    obtain ⟨t, rfl⟩ := hl
    refine seg_execs_cons (seg_Expr_Yield hgs rfl hgf (ld_loc (hd := by decide) G hn G.kL hm ?_) G.co G.ia)
    intro kap _
    refine ⟨⟨t, y, ?_, rfl⟩, hs, fun h => ?_⟩
    · rw [hall]; exact idx_here pre y [] _ rfl
    · rcases h with h | h
      · cases h
      · exact absurd h (Nat.lt_irrefl _)
  | succ k ih =>
    intro pre hall lastv s₀ s hl S hs
    refine seg_whileLoop (isTrue_plain (wpAny_Constant_bool (wpAny_truthy_bool ?_)))
    rw [if_pos rfl]
    obtain ⟨m, hn, hm⟩ := S.ns
    obtain ⟨t, rfl⟩ := hl
    refine seg_execs_cons (seg_Expr_Yield hgs rfl hgf (ld_loc (hd := by decide) G hn G.kL hm ?_) G.co G.ia)
    intro kap hk
    refine ⟨⟨t, y, ?_, rfl⟩, hs, fun _ => ⟨I, G.pI, Ne.symm G.CI, fun s'' ha => hk .none s'' ?_⟩⟩
    · rw [hall]; exact idx_here pre y (List.replicate (k + 1) y) _ (by simp)
    · refine seg_execs_nil (seg_again rfl (ih (pre ++ [y]) ?_ _ _ _ ⟨t, rfl⟩ (S.agree G ha) (GSince.refl _ _)))
      rw [hall, List.append_assoc]
      rfl

theorem seg_gloop (G : GEnv prog w base pr C I ax env) (p : GPos) (rb : List Stmt) {px : Pos} {e : Bool} (hh : A.handled = none) (hgs : splitAtGen fs = none) (hgf : fs.any PySem.Frame.guarded = false)
    (hend : ∀ c f s₀ s', (f = .next ∨ f = .ret .none) → e = true → GSince pr s₀ s' → Seg (model prog w) A (gR pr e) (gY base pr C ax all e) 0 s₀ c (leafOf (.ok f)) fs s')
    (hov : ∀ c, (A.over c fs).handled = none) :
    ∀ (rest : List Int) (last : Option Int) (its : List Int), Gives rest last its e → (e = true ∨ its ≠ []) → ∀ (pre : List Int), all = pre ++ its → ∀ (i : Nat), IntsAre (items.toList.drop i) rest → ∀ (lastv : Value) (s₀ s : Shared), LastIs lastv last → GSt base C I ax items lastv i s.heap → GSince pr s₀ s →
      Seg (model prog w) A (gR pr e) (gY base pr C ax all e) its.length s₀ (.forLoop (.Name nI px) (.ref I) (gbody p rb) [] env) ((model prog w).den (.forLoop (.Name nI px) (.ref I) (gbody p rb) [] env)) fs s := by
  intro rest last its hg
  induction hg with
  | nil l =>
    intro _ pre hall i hi lastv s₀ s hl S hs
    refine seg_forTurn (wpAny_pyNext_list_end (hov _) S.it S.li ?_ fun h' hk => ?_)
    · have h1 := hi.length
      rw [List.length_drop] at h1
      have h2 : items.toList.length ≤ i := by simpa using Nat.sub_eq_zero_iff_le.mp (by simpa using h1)
      exact Array.getElem?_eq_none (by simpa using h2)
    · refine seg_again rfl ?_
      exact hend _ .next _ _ (.inl rfl) rfl (hs.step fun b o hb q => hk b o (fun z => G.pI (z ▸ hb)) q)
  | max r l =>
    intro _ pre hall i hi lastv s₀ s hl S hs
    obtain ⟨t, hx⟩ := drop_head hi
    refine seg_forTurn (wpAny_pyNext_list_item S.it S.li hx fun h₁ hit hs₁ => ?_)
    have S₁ := S.step G hit hs₁
    have hs₁' := hs.step (h' := h₁) (tk := s.toks) fun b o hb q => hs₁.extBut b o (fun z => G.pI (z ▸ hb)) q
    obtain ⟨m, hn, hm⟩ := S₁.ns
    refine wpAny_pure (wpAny_assign_Name (wpAny_storeName_local G.kI (G.loc ▸ hn) (fun h₂ hn₂ hs₂ => ?_) G.plain))
    have hnC : h₂.Ns C _ := G.loc ▸ hn₂
    have S₂ := S₁.store G (v := lastv) (x := nI) hnC (by rw [if_neg (by decide)]; exact hm) (G.loc ▸ hs₂)
    have hs₂' := hs₁'.step (h' := h₂) (tk := s.toks + 1) fun b o hb q => hs₂.extBut b o (fun z => G.pC (G.loc ▸ z ▸ hb)) q
    refine seg_execs_cons (seg_If (wpAny_isTrue_Compare1 (ld_loc (hd := by decide) G hnC G.kI (if_pos rfl) (G.cm _ _ _ _ _ S₂.keep fun t' => PyProof.Rows.eq_int (wpAny_truthy_bool ?_)))))
    rw [if_pos (by decide)]
    refine seg_execs_cons (seg_plain (wpAny_Return_none ?_))
    exact hend _ (.ret .none) _ _ (.inr rfl) rfl hs₂'
  | zero r y k =>
    intro hne pre hall i hi lastv s₀ s hl S hs
    obtain ⟨t, hx⟩ := drop_head hi
    refine seg_forTurn (wpAny_pyNext_list_item S.it S.li hx fun h₁ hit hs₁ => ?_)
    have S₁ := S.step G hit hs₁
    have hs₁' := hs.step (h' := h₁) (tk := s.toks) fun b o hb q => hs₁.extBut b o (fun z => G.pI (z ▸ hb)) q
    obtain ⟨m, hn, hm⟩ := S₁.ns
    refine wpAny_pure (wpAny_assign_Name (wpAny_storeName_local G.kI (G.loc ▸ hn) (fun h₂ hn₂ hs₂ => ?_) G.plain))
    have hnC : h₂.Ns C _ := G.loc ▸ hn₂
    have S₂ := S₁.store G (v := lastv) (x := nI) hnC (by rw [if_neg (by decide)]; exact hm) (G.loc ▸ hs₂)
    have hs₂' := hs₁'.step (h' := h₂) (tk := s.toks + 1) fun b o hb q => hs₂.extBut b o (fun z => G.pC (G.loc ▸ z ▸ hb)) q
    refine seg_execs_cons (seg_If (wpAny_isTrue_Compare1 (ld_loc (hd := by decide) G hnC G.kI (if_pos rfl) (G.cm _ _ _ _ _ S₂.keep fun t' => PyProof.Rows.eq_int (wpAny_truthy_bool ?_)))))
    rw [if_neg (by decide)]
    refine seg_execs_nil (seg_execs_cons (seg_If (wpAny_isTrue_Compare1 (ld_loc (hd := by decide) G hnC G.kI (if_pos rfl) (wpAny_Constant_int (PyProof.Rows.eq_int (wpAny_truthy_bool ?_)))))))
    rw [if_pos (by decide)]
    have hm₂ : (fun z => if z = nI then some (Value.int 0 t) else m z) nL = some lastv := by
      show (if nL = nI then _ else m nL) = _
      rw [if_neg (by decide)]; exact hm
    refine seg_execs_cons (seg_If (wpAny_isTrue_Compare1 (ld_loc (hd := by decide) G hnC G.kL hm₂ (wpAny_Constant_none (PySem.is_none (wpAny_truthy_bool ?_))))))
    obtain ⟨tl, rfl⟩ := hl
    rw [if_neg (by intro q; cases q)]
    refine seg_execs_nil (seg_execs_cons (seg_While fun pp => ?_))
    obtain ⟨k', rfl⟩ : ∃ k', k = k' + 1 := by
      cases k with
      | zero => rcases hne with h | h
                · cases h
                · exact absurd rfl h
      | succ k' => exact ⟨k', rfl⟩
    rw [List.length_replicate]
    exact seg_wloop G p y (split_ret hgs) (by rw [List.any_cons, hgf]; rfl) k' pre hall _ _ _ ⟨tl, rfl⟩ S₂ (hs₂'.step (h' := h₂) fun b o _ q => q)
  | item x r l its e h1 h2 hg ih =>
    intro hne pre hall i hi lastv s₀ s hl S hs
    obtain ⟨t, hx⟩ := drop_head hi
    refine seg_forTurn (wpAny_pyNext_list_item S.it S.li hx fun h₁ hit hs₁ => ?_)
    have S₁ := S.step G hit hs₁
    have hs₁' := hs.step (h' := h₁) (tk := s.toks) fun b o hb q => hs₁.extBut b o (fun z => G.pI (z ▸ hb)) q
    obtain ⟨m, hn, hm⟩ := S₁.ns
    refine wpAny_pure (wpAny_assign_Name (wpAny_storeName_local G.kI (G.loc ▸ hn) (fun h₂ hn₂ hs₂ => ?_) G.plain))
    have hnC : h₂.Ns C _ := G.loc ▸ hn₂
    have S₂ := S₁.store G (v := lastv) (x := nI) hnC (by rw [if_neg (by decide)]; exact hm) (G.loc ▸ hs₂)
    have hs₂' := hs₁'.step (h' := h₂) (tk := s.toks + 1) fun b o hb q => hs₂.extBut b o (fun z => G.pC (G.loc ▸ z ▸ hb)) q
    refine seg_execs_cons (seg_If (wpAny_isTrue_Compare1 (ld_loc (hd := by decide) G hnC G.kI (if_pos rfl) (G.cm _ _ _ _ _ S₂.keep fun t' => PyProof.Rows.eq_int (wpAny_truthy_bool ?_)))))
    rw [if_neg (by simpa using h1)]
    refine seg_execs_nil (seg_execs_cons (seg_If (wpAny_isTrue_Compare1 (ld_loc (hd := by decide) G hnC G.kI (if_pos rfl) (wpAny_Constant_int (PyProof.Rows.eq_int (wpAny_truthy_bool ?_)))))))
    rw [if_neg (by simpa using h2)]
    refine seg_execs_nil (seg_execs_cons (seg_Expr_Yield hgs rfl hgf (ld_loc (hd := by decide) G hnC G.kI (if_pos rfl) ?_) G.co G.ia))
    intro kap hk
    refine ⟨⟨t, x, by rw [hall]; exact idx_here pre x its _ rfl, rfl⟩, hs₂'.step fun b o _ q => q, fun hgo => ⟨I, G.pI, Ne.symm G.CI, fun s'' ha => hk .none s'' ?_⟩⟩
    have S₃ := S₂.agree G ha
    have hn₃ : s''.heap.Ns C _ := hnC.at' fun o q => ha _ o (.inr (.inl rfl)) q
    refine seg_execs_cons (seg_plain (wpAny_Assign_Name (ld_loc (hd := by decide) G hn₃ G.kI (if_pos rfl) (wpAny_storeName_local G.kL (G.loc ▸ hn₃) (fun h₄ hn₄ hs₄ => ?_) G.plain)) ?_))
    · have S₄ := S₃.store G (v := .int x t) (x := nL) (G.loc ▸ hn₄) (if_pos rfl) (G.loc ▸ hs₄)
      refine seg_execs_nil (seg_again rfl (ih hend ?_ (pre ++ [x]) ?_ (i + 1) ?_ _ _ _ ⟨t, rfl⟩ S₄ ?_))
      · rcases hgo with q | q
        · exact .inl q
        · exact .inr fun z => by rw [z] at q; exact absurd q (Nat.lt_irrefl _)
      · rw [hall, List.append_assoc]; rfl
      · exact drop_tail hi
      · exact (GSince.refl _ _).step fun b o hb q => hs₄.extBut b o (fun z => G.pC (G.loc ▸ z ▸ hb)) q
    · exact G.sw _ _ _
end
end Mine
end
section
open PySem PySem.W PyProof.Rows PySem.Calls PySem.Spec
namespace Mine
section
variable {prog : Program} {w : World} {A : Around} {E : Value → Shared → Prop} {s : Shared}

theorem next_gen {a : Addr} {g n : Nat} {gs : GenState} {P : Nat → Shared → Shared → Prop} {Y : Protocol} {Q : Option Value → Shared → Prop} (hh : A.handled = none)
    (hl : s.heap.NoLimit) (hroom : A.depth < recursionLimit) (hg : s.heap.IsGen a g) (hgs : s.gens[g]? = some gs)
    (hgo : gs.Goes (model prog w) A.in1 (fun n s₀ r s₁ => r = .ok (.ret .none) ∧ P n s₀ s₁) Y n (.send .none) (s.setGen g .running))
    (hY : ∀ v s₁ gs', gs'.bare = true → Y (n - 1) (s.setGen g .running) v s₁ (fun r' s'' => match n with
        | 0 => False
        | m + 1 => gs'.Goes (model prog w) A.in1 (fun n s₀ r s₁ => r = .ok (.ret .none) ∧ P n s₀ s₁) Y m r' s'') → Q (some v) (s₁.setGen g gs'))
    (hP : ∀ s₁, P n (s.setGen g .running) s₁ → ∀ h', (∀ b o, s₁.heap.get? b = some o → h'.get? b = some o) → Q none { s₁.setGen g .finished with heap := h' }) :
    wpAny (model prog w) A (pyNext (.ref a)) Q E s := by
  unfold pyNext
  refine wpAny_bind (wpAny_attempt (wpAny_callSpecial?_slot (name := Str.ofString "__next__") hg.typeIs slot_gen_next
    (wpAny_call_entry slot_gen_next hg.typeIs entry_gen_next ?_ (args_gen_next _))))
  show wpAny _ A.in1 (Builtin.Generator.genWake (.ref a) (.send .none)) _ _ s
  unfold Builtin.Generator.genWake
  refine wpAny_bind (wpAny_holding (wpAny_genNumber hg (wpAny_bind (wpAny_genState hgs ?_))))
  cases gs with
  | running => exact hgo.elim
  | finished => exact hgo.elim
  | _ =>
    refine wpAny_bind (wpAny_roomToWake hl hroom ?_)
    show wpAny _ A.in1 (.resume g (.send .none) [] _) _ _ s
    refine wpAny_resumeQ hgs hgo (fun x s₁ hx => ?_) (fun v s₁ gs' hb hv => ?_)
    · obtain ⟨rfl, hp⟩ := hx
      show wpAny _ A.in1 (newExc (.type "StopIteration") [] >>= _) _ _ _
      refine wpAny_bind ?_
      simp only [newExc, newTuple]
      refine wpAny_bind (wpAny_newObj_type ?_ (by size_fits))
      refine wpAny_bind (m := firstArgMember _ _) (wpAny_of_eq (a := Value.none) (by first | rfl | (simp only [firstArgMember]; rfl)) ?_)
      refine wpAny_newObj_type ?_ (by size_fits)
      simp only [raiseNew]
      refine wpAny_bind (wpAny_bind (wpAny_handled ?_))
      first | rw [show A.in1.handled = none from hh] | rw [hh]
      refine wpAny_throw ?_
      refine wpAny_bind (wpAny_isInstance (T := "StopIteration") (b := true) ⟨_, Heap.get?_push_size _ rfl, rfl⟩ isSubtype_stop ?_)
      exact wpAny_pure (hP s₁ hp _ fun b o hb => Heap.get?_push_of_some _ (Heap.get?_push_of_some _ hb))
    · exact wpAny_pure ⟨v, rfl, wpAny_pure (hY v s₁ gs' hb hv)⟩
end

set_option genSizeOf false in
set_option genInjectivity false in
/-- the generator between two wakings: j numbers given -/
structure GAt (prog : Program) (w : World) (A : Around) (base : Heap) (a : Addr) (g : Nat) (pr : Addr → Prop) (C ax : Addr) (all : List Int) (e : Bool) (j : Nat) (X : List Addr) (s : Shared) : Prop where
  gen : s.heap.IsGen a g
  lim : s.heap.NoLimit
  lt : g < s.gens.size
  xs : ∀ b ∈ X, b = C ∨ b = ax ∨ b = a ∨ ¬ pr b
  goes : (e = true ∨ j < all.length) → ∃ gs, s.gens[g]? = some gs ∧ ∀ s'' : Shared, (∀ b o, ((∃ o', base.get? b = some o') ∨ b ∈ X) → s.heap.get? b = some o → s''.heap.get? b = some o) →
    gs.Goes (model prog w) A.in1 (gR pr e) (gY base pr C ax all e) (all.length - j) (.send .none) s''

section
variable {prog : Program} {w : World} {A : Around} {E : Value → Shared → Prop} {s : Shared} {base : Heap} {a C ax : Addr} {g j : Nat} {pr : Addr → Prop} {all : List Int} {e : Bool} {X : List Addr}
theorem GAt.moved (S : GAt prog w A base a g pr C ax all e j X s) {h' : Heap} {tk : Nat} (hg : h'.IsGen a g) (hl : h'.NoLimit) (ha : ∀ b o, ((∃ o', base.get? b = some o') ∨ b ∈ X) → s.heap.get? b = some o → h'.get? b = some o) : GAt prog w A base a g pr C ax all e j X { s with heap := h', toks := tk } :=
  ⟨hg, hl, S.lt, S.xs, fun q => let ⟨gs, h1, h2⟩ := S.goes q; ⟨gs, h1, fun s'' ha' => h2 s'' fun b o hb q => ha' b o hb (ha b o hb q)⟩⟩

theorem nolim_but {h h' : Heap} (hl : h.NoLimit) (hk : ∀ o, h.get? cStatics = some o → h'.get? cStatics = some o) : h'.NoLimit :=
  let ⟨mc, hns, hnn⟩ := hl; ⟨mc, hns.at' hk, hnn⟩

theorem nj1 {N j : Nat} (h : j < N) : N - 1 - (N - j - 1) = j := by
  rw [Nat.sub_right_comm N j 1]
  exact Nat.sub_sub_self (Nat.le_sub_one_of_lt h)
theorem next_item {Q : Option Value → Shared → Prop} (hh : A.handled = none) (hroom : A.depth < recursionLimit) (S : GAt prog w A base a g pr C ax all e j X s) (hj : j < all.length) (hb : AllBare s.gens)
    (hpa : pr a) (hps : pr cStatics)
    (hQ : ∀ y t h' tk gens' X', all[j]? = some y → GAt prog w A base a g pr C ax all e (j + 1) X' { s with heap := h', toks := tk, gens := gens' } → (∀ b o, pr b → s.heap.get? b = some o → h'.get? b = some o) → AllBare gens' →
      Q (some (.int y t)) { s with heap := h', toks := tk, gens := gens' }) : wpAny (model prog w) A (pyNext (.ref a)) Q E s := by
  obtain ⟨gs, hgs, hgo⟩ := S.goes (.inr hj)
  refine next_gen (P := fun n s₀ s₁ => n = 0 ∧ e = true ∧ GSince pr s₀ s₁) hh S.lim hroom S.gen hgs (hgo _ fun _ _ _ q => q) (fun v s₁ gs' hbr hv => ?_) (fun s₁ hp h' hk => ?_)
  · obtain ⟨⟨t, y, hy, rfl⟩, ⟨h₁, tk₁, rfl, keep⟩, hkap⟩ := hv
    have hidx : all.length - 1 - (all.length - j - 1) = j := nj1 hj
    rw [hidx] at hy
    have hbare : AllBare (Shared.setGen { s.setGen g .running with heap := h₁, toks := tk₁ } g gs').gens := (GenOnlyQ.of ((GenOnly.setGen s g .running).trans (GenOnly.setGen { s.setGen g .running with heap := h₁, toks := tk₁ } g gs')) (setGen_self (gs := .running) (setGen_self hgs)) hbr).bare hb
    have hgen : h₁.IsGen a g := by
      obtain ⟨o, nm, qn, ho, r⟩ := S.gen
      exact ⟨o, nm, qn, keep a o hpa ho, r⟩
    have hlt : g < (Shared.setGen { s.setGen g .running with heap := h₁, toks := tk₁ } g gs').gens.size := by simpa [Shared.setGen] using S.lt
    by_cases hc : e = true ∨ j + 1 < all.length
    · obtain ⟨m, hm⟩ : ∃ m, all.length - j = m + 1 := ⟨all.length - j - 1, (Nat.sub_add_cancel (Nat.sub_pos_of_lt hj)).symm⟩
      have e1 : all.length - (j + 1) = m := by rw [Nat.sub_add_eq, hm]; rfl
      rw [hm] at hkap
      obtain ⟨I, hI, hIC, hkap⟩ := hkap (hc.imp id fun q => by have := Nat.sub_pos_of_lt q; rw [e1] at this; exact this)
      refine hQ y t h₁ tk₁ _ [C, I, ax] hy ⟨hgen, nolim_but S.lim fun o q => keep _ o hps q, hlt, fun b hb => ?_, fun _ => ⟨gs', setGen_self (gs := .running) (setGen_self hgs), fun s'' hal => ?_⟩⟩ keep hbare
      · simp only [List.mem_cons, List.not_mem_nil, or_false] at hb
        rcases hb with rfl | rfl | rfl
        · exact .inl rfl
        · exact .inr (.inr (.inr hI))
        · exact .inr (.inl rfl)
      · rw [e1]
        refine hkap s'' fun b o hb q => hal b o (hb.imp id fun z => ?_) q
        simpa using z
    · exact hQ y t h₁ tk₁ _ [] hy ⟨hgen, nolim_but S.lim fun o q => keep _ o hps q, hlt, fun b hb => by simp at hb, fun q => absurd q hc⟩ keep hbare
  · exact absurd hp.1 (Nat.sub_ne_zero_of_lt hj)

theorem next_end {Q : Option Value → Shared → Prop} (hh : A.handled = none) (hroom : A.depth < recursionLimit) (he : e = true) (S : GAt prog w A base a g pr C ax all e all.length X s) (hb : AllBare s.gens)
    (hQ : ∀ h' tk gens', (∀ b o, pr b → s.heap.get? b = some o → h'.get? b = some o) → AllBare gens' → Q none { s with heap := h', toks := tk, gens := gens' }) : wpAny (model prog w) A (pyNext (.ref a)) Q E s := by
  obtain ⟨gs, hgs, hgo⟩ := S.goes (.inl he)
  rw [Nat.sub_self] at hgo
  refine next_gen (P := fun n s₀ s₁ => n = 0 ∧ e = true ∧ GSince pr s₀ s₁) hh S.lim hroom S.gen hgs (hgo _ fun _ _ _ q => q) (fun v s₁ gs' hbr hv => ?_) (fun s₁ hp h' hk => ?_)
  · obtain ⟨_, _, hkap⟩ := hv
    obtain ⟨I, _, _, hkap⟩ := hkap (.inl he)
    exact (hkap s₁ fun _ _ _ q => q).elim
  · obtain ⟨_, _, h₁, tk₁, rfl, hk₁⟩ := hp
    exact hQ h' tk₁ _ (fun b o h1 q => hk b o (hk₁ b o h1 q)) ((GenOnlyQ.of ((GenOnly.setGen s g .running).trans (GenOnly.setGen { s.setGen g .running with heap := h₁, toks := tk₁ } g .finished)) (setGen_self (gs := .running) (setGen_self hgs)) rfl).bare hb)
end

section
variable {prog : Program} {w : World} {A : Around} {R : GenEnd} {Y : Protocol} {n : Nat} {s₀ : Shared} {fs : List PySem.Frame} {s : Shared} {env : Env}
  {c : Code} {K : Flow → Sem Fin} {H : Value → Sem Fin} {gd : Bool → Bool} {lv : List Value → List Value}
abbrev forFrame (K : Flow → Sem Fin) (H : Value → Sem Fin) (gd : Bool → Bool) (lv : List Value → List Value) (env : Env) (c : Code) (p : Pos) : PySem.Frame :=
  .ret (fun r => ((match r with | .ok f => (.pure f : Sem Flow) | .error e => .raise e).onRaise fun (x : Value) => do
        if (← field x 1) == Value.none then unsupported "frame.own-activation:exception-without-traceback"
        setFlight x env.frame).wrap K H gd lv) none (gd false) (lv []) c p []
theorem seg_For {target iter : PySem.Expr} {body orelse : List Stmt} {pos : Pos} (hs : ∀ x, foldedSetIterable iter env x = pure x)
    (h : wpAny (model prog w) (A.over c fs) (eval iter env) (fun x s₁ => wpAny (model prog w) (A.over c fs) (pyIter x) (fun it s₂ =>
      ∀ p, Seg (model prog w) A R Y n s₀ (.forLoop target it body orelse env) ((model prog w).den (.forLoop target it body orelse env)) (forFrame K H gd lv env c p :: fs) s₂) (fun _ _ => False) s₁) (fun _ _ => False) s) :
    Seg (model prog w) A R Y n s₀ c ((exec (.For target iter body orelse pos) env).wrap K H gd lv) fs s := by
  rw [exec_For]
  refine seg_bind_wrap (wpAny_standAt ?_)
  refine seg_bind_wrap (wpAny_mono h (fun x s₁ h₁ => ?_) fun _ _ x => x.elim)
  refine seg_bind_wrap (wpAny_of_eq (hs x) ?_)
  refine seg_bind_wrap (wpAny_standAt ?_)
  refine seg_bind_wrap (wpAny_holding (wpAny_mono h₁ (fun it s₂ h₂ => ?_) fun _ _ x => x.elim))
  exact seg_call h₂
end

section
variable {prog : Program} {w : World} {A : Around} {base : Heap} {pr : Addr → Prop} {C ax : Addr} {env : Env} {items : Array Value} {all : List Int} {e : Bool}
abbrev nG : Str := Str.ofString "grouping"
/-- the generator from its start -/
theorem seg_gstart (p : GPos) (rb : List Stmt) {px pl pn pg pa pf : Pos} {kn : Nat} (hh : A.handled = none)
    (hpC : ¬ pr C) (hCx : C ≠ ax) (hbC : base.get? C = none) (hloc : env.locals = C) (hkf : env.scope.kind = .function) (hco : env.scope.isCoroutine = false)
    (hpl : (env.scope.kind == .class || (env.scope.kind == .module && env.locals != env.globals)) = false)
    (hsw : ∀ (t : Option PySem.Expr) (ln : Nat) (q : Pos), swapsWith (.Name nI q) t ln env = pure false) (hsn : swapsWith (.Constant .none kn pn) (some (.Name nL pl)) pa.line env = pure false) (hia : interactive env = false)
    (hkI : env.kindOf nI = some .local) (hkL : env.kindOf nL = some .local) (hkG : env.kindOf nG = some .local)
    (hcm : ∀ (A' : Around) (pos : Pos) (Q : Value → Shared → Prop) (E : Value → Shared → Prop) (s : Shared), (∀ b o, base.get? b = some o → s.heap.get? b = some o) → (∀ t, Q (.int 127 t) s) → wpAny (model prog w) A' (eval (.Name nM pos) env) Q E s)
    (hfold : ∀ x, foldedSetIterable (.Name nG pg) env x = pure x)
    {G : List Int} (hg : Gives G none all e) (hne : e = true ∨ all ≠ []) (hi : IntsAre items.toList G)
    {s : Shared} {m : Str → Option Value} (hprs : ∀ b, pr b → b < s.heap.objs.size) (hkeep : ∀ b o, base.get? b = some o → s.heap.get? b = some o) (hl : s.heap.IsList ax items) (hn : s.heap.Ns C m) (hm : m nG = some (.ref ax)) :
    Seg (model prog w) A (gR pr e) (gY base pr C ax all e) all.length s (.func [.Assign [.Name nL pl] (.Constant .none kn pn) pa, .For (.Name nI px) (.Name nG pg) (gbody p rb) [] pf] env)
      ((model prog w).den (.func [.Assign [.Name nL pl] (.Constant .none kn pn) pa, .For (.Name nI px) (.Name nG pg) (gbody p rb) [] pf] env)) [] s := by
  refine seg_func (seg_execs_cons (seg_plain (wpAny_Assign_Name (wpAny_Constant_none (wpAny_storeName_local hkL (hloc ▸ hn) (fun h₁ hn₁ hs₁ => ?_) hpl)) hsn)))
  have hnC : h₁.Ns C _ := hloc ▸ hn₁
  have hs₁' : Heap.SameBut C s.heap h₁ := hloc ▸ hs₁
  have hl₁ : h₁.IsList ax items := hl.extBut hs₁'.extBut (Ne.symm hCx)
  refine seg_execs_cons (seg_For hfold (wpAny_Name (wpAny_loadName_local hkf hkG hn₁ (by rw [if_neg (by decide)]; exact hm) ?_)))
  refine wpAny_pyIter_list hl₁ fun p' => ?_
  have hsz : h₁.objs.size = s.heap.objs.size := hs₁'.1
  have hpI : ¬ pr h₁.objs.size := fun q => absurd (hprs _ q) (by rw [hsz]; exact Nat.lt_irrefl _)
  have hbI : base.get? h₁.objs.size = none := by
    cases hq : base.get? h₁.objs.size with
    | none => rfl
    | some o => exact absurd (Heap.lt_size (hkeep _ _ hq)) (by rw [hsz]; exact Nat.lt_irrefl _)
  have hCI : C ≠ h₁.objs.size := Nat.ne_of_lt hnC.lt
  have hxI : ax ≠ h₁.objs.size := Nat.ne_of_lt (by obtain ⟨o, ho, _⟩ := hl₁; exact Heap.lt_size ho)
  have GE : GEnv prog w base pr C h₁.objs.size ax env := ⟨hpC, hpI, hCI, hCx, hxI, hbC, hbI, hloc, hkf, hco, hpl, hsw, hia, hkI, hkL, hcm⟩
  refine seg_gloop GE p rb hh (by rfl) (by rfl) (fun c f s₀ s' hf he hs => ?_) (fun c => by exact hh) G none all hg hne [] rfl 0 hi .none _ _ rfl ⟨?_, ?_, ?_, ?_⟩ ?_
  · subst he
    rcases hf with rfl | rfl
    · exact seg_leaf (.ok .next) (seg_end (.ok (.ret .none)) ⟨rfl, rfl, rfl, hs⟩)
    · exact seg_leaf (.ok (.ret .none)) (seg_end (.ok (.ret .none)) ⟨rfl, rfl, rfl, hs⟩)
  · exact fun b o q => Heap.get?_push_of_some _ (hs₁'.extBut b o (fun z => by rw [z, hbC] at q; cases q) (hkeep b o q))
  · exact ⟨_, Heap.get?_push_size _ rfl, rfl, rfl⟩
  · exact hl₁.at fun o q => Heap.get?_push_of_some _ q
  · exact ⟨_, hnC.push _, if_pos rfl⟩
  · exact (GSince.refl pr s).step fun b o hb q => Heap.get?_push_of_some _ (hs₁'.extBut b o (fun z => hpC (z ▸ hb)) q)
end
end Mine
end
section
open PySem PySem.W PyProof.Rows PySem.Calls PySem.Spec
namespace Mine
section
variable {prog : Program} {w : World} {A : Around} {s : Shared} {h₀ : Heap} {a C ax L : Addr} {g : Nat} {all : List Int} {e : Bool} {env : Env} {x : Str} {body : List Stmt}

/-- the addresses that the generator leaves alone -/
noncomputable def Pr (N : Nat) (C : Addr) (b : Addr) : Prop := b < N ∧ b ≠ C

theorem gen_loop {R : Result → Shared → Prop} {px : Pos} {N : Nat} {m : Str → Option Value} {news : List (Addr × Obj)} {X : List Addr}
    (hh : A.handled = none) (hroom : A.depth < recursionLimit) (hx : env.kindOf x = some .local) (hpl : (env.scope.kind == .class || (env.scope.kind == .module && env.locals != env.globals)) = false)
    (hlim : h₀.NoLimit)
    (S : GAt prog w A h₀ a g (Pr N C) C ax all e 0 X s) (hb : AllBare s.gens) (F : Fr h₀ env.locals s.heap m) (N₀ : News h₀ env.locals s.heap news)
    (haN : a < N) (haC : a ≠ C) (hah : h₀.get? a = none) (haL : a ≠ env.locals) (hCh : h₀.get? C = none) (hCL : C ≠ env.locals) (hxL : ax ≠ env.locals) (hLN : env.locals < N) (hnews : ∀ p ∈ news, p.1 < N ∧ p.1 ≠ C ∧ p.1 ≠ ax ∧ p.1 ≠ a)
    (J : Nat → (Str → Option Value) → List (Addr × Obj) → Prop) (hJ : J 0 m news)
    (hlast : e = false → ∀ m n, ¬ J all.length m n) (h0 : e = true ∨ 0 < all.length)
    (turn : ∀ j y t m₁ news₁ s₁ own, (∃ h tk gs, s₁ = { s with heap := h, toks := tk, gens := gs }) → AllBare s₁.gens → all[j]? = some y → news₁.map (·.1) = news.map (·.1) → OwnOff own (news.map (·.1)) → J j m₁ news₁ →
      Fr h₀ env.locals s₁.heap (fun z => if z = x then some (.int y t) else m₁ z) → News h₀ env.locals s₁.heap (news₁ ++ own) →
      wpAny (model prog w) A (execs body env) (InvPostN h₀ env.locals (J (j + 1)) own (news.map (·.1)) s₁ (fun f s' => R (.ok f) s')) (notedBy (model prog w) A env fun e s' => R (.error e) s') s₁)
    (done : e = true → ∀ m₁ news₁ s₁, (∃ h tk gs, s₁ = { s with heap := h, toks := tk, gens := gs }) → AllBare s₁.gens → J all.length m₁ news₁ → Fr h₀ env.locals s₁.heap m₁ → News h₀ env.locals s₁.heap news₁ → R (.ok .next) s₁) :
    codeAny (model prog w) A (.forLoop (.Name x px) (.ref a) body [] env) R s := by
  refine codeAny_forLoop
    (fun k s' => ∃ h tk gs m' nx j X', s' = { s with heap := h, toks := tk, gens := gs } ∧ GAt prog w A h₀ a g (Pr N C) C ax all e j X' s' ∧ AllBare gs ∧ Fr h₀ env.locals h m' ∧ News h₀ env.locals h nx ∧ nx.map (·.1) = news.map (·.1) ∧ J j m' nx ∧ j ≤ all.length ∧ (e = true ∨ j < all.length) ∧ k = all.length + 1 - j) ?_ (all.length + 1)
    ⟨s.heap, s.toks, s.gens, m, news, 0, X, rfl, S, hb, F, N₀, rfl, hJ, Nat.zero_le _, h0, rfl⟩
  rintro k s' ⟨h, tk, gs, m', nx, j, X', rfl, S', hb', F', N', hadr, hJ', hj, hcont, rfl⟩
  have prL : Pr N C env.locals := ⟨hLN, Ne.symm hCL⟩
  have pr0 : ∀ b o, h₀.get? b = some o → Pr N C b := fun b o q => ⟨Nat.lt_of_lt_of_le (Heap.lt_size q) (Nat.le_of_lt (Nat.lt_of_le_of_lt F.above hLN)), fun z => by rw [z, hCh] at q; cases q⟩
  have pra : Pr N C a := ⟨haN, haC⟩
  have prs : Pr N C cStatics := let ⟨_, ⟨o, _, _, hns, _⟩, _⟩ := hlim; pr0 _ o hns
  have prn : ∀ p ∈ nx, p.1 < N ∧ p.1 ≠ C ∧ p.1 ≠ ax ∧ p.1 ≠ a := fun p hp => by
    have : p.1 ∈ news.map (·.1) := hadr ▸ List.mem_map.mpr ⟨p, hp, rfl⟩
    obtain ⟨q, hq, e⟩ := List.mem_map.mp this
    exact e ▸ hnews q hq
  have next : ∀ h₁ : Heap, (∀ b o, Pr N C b → h.get? b = some o → h₁.get? b = some o) → Fr h₀ env.locals h₁ m' ∧ News h₀ env.locals h₁ nx := fun h₁ hk₁ =>
    ⟨⟨F'.ns.at' fun o q => hk₁ _ o prL q, fun b o q => hk₁ b o (pr0 b o q) (F'.keep b o q), F'.above⟩, fun p hp => ⟨hk₁ _ _ ⟨(prn p hp).1, (prn p hp).2.1⟩ (N' p hp).1, (N' p hp).2⟩⟩
  by_cases hlt : j < all.length
  · refine next_item hh hroom S' hlt hb' pra prs fun y t h₁ tk₁ gens' X₁ hy S₁ hk₁ hb₁ => ?_
    obtain ⟨F₁, N₁⟩ := next h₁ hk₁
    refine wpAny_assign_Name (wpAny_storeName_local hx F₁.ns (fun h₂ hn₂ hs₂ => ?_) hpl)
    have F₂ := F₁.set hn₂ hs₂
    have N₂ := N₁.set hs₂
    have hLX : env.locals ∉ a :: X₁ := fun hm => by
      rcases List.mem_cons.mp hm with q | q
      · exact haL q.symm
      · rcases S₁.xs _ q with z | z | z | z
        · exact hCL z.symm
        · exact hxL z.symm
        · exact haL z.symm
        · exact z prL
    have Nown : News h₀ env.locals h₂ (ownOf h₀ (a :: X₁) h₂) := news_ownOf hLX
    have hoff : OwnOff (ownOf h₀ (a :: X₁) h₂) (news.map (·.1)) := by
      intro p hp b hbm q
      obtain ⟨r, hr, rfl⟩ := List.mem_map.mp hbm
      have hr' := hnews r hr
      rcases List.mem_cons.mp (ownOf_sub p hp) with z | z
      · exact hr'.2.2.2 (q ▸ z)
      · rcases S₁.xs _ z with z | z | z | z
        · exact hr'.2.1 (q ▸ z)
        · exact hr'.2.2.1 (q ▸ z)
        · exact hr'.2.2.2 (q ▸ z)
        · exact z ⟨q ▸ hr'.1, fun y => hr'.2.1 (q ▸ y)⟩
    refine wpAny_mono (turn j y t m' nx _ (ownOf h₀ (a :: X₁) h₂) ⟨_, _, _, rfl⟩ hb₁ hy hadr hoff hJ' F₂ (fun p hp => (List.mem_append.mp hp).elim (N₂ p) (Nown p))) (fun f s₃ h₃ => ?_) fun _ _ q => q
    have fin : InvEndN h₀ env.locals (J (j + 1)) (ownOf h₀ (a :: X₁) h₂) (news.map (·.1)) { s with heap := h₂, toks := tk₁ + 1, gens := gens' } s₃ →
        ∃ k', k' < all.length + 1 - j ∧ ∃ h tk gs m' nx j X', s₃ = { s with heap := h, toks := tk, gens := gs } ∧ GAt prog w A h₀ a g (Pr N C) C ax all e j X' s₃ ∧ AllBare gs ∧ Fr h₀ env.locals h m' ∧ News h₀ env.locals h nx ∧ nx.map (·.1) = news.map (·.1) ∧ J j m' nx ∧ j ≤ all.length ∧ (e = true ∨ j < all.length) ∧ k' = all.length + 1 - j := by
      rintro ⟨h', tk', m₃, news', nx₃, rfl, F₃, N₃, hn₃, ho₃, ha₃, hJ₃⟩
      have kown : ∀ b ∈ a :: X₁, ∀ o, h₂.get? b = some o → h'.get? b = some o := fun b hbm o q => by
        cases hn : h₀.get? b with
        | some o₀ =>
          have : o₀ = o := by have := F₂.keep b o₀ hn; rw [q] at this; exact (Option.some.inj this).symm
          exact this ▸ F₃.keep b o₀ hn
        | none => exact (N₃ _ (ho₃ _ (mem_ownOf hbm hn q))).1
      have kbase : ∀ b o, ((∃ o', h₀.get? b = some o') ∨ b ∈ X₁) → h₁.get? b = some o → h'.get? b = some o := fun b o hbm q => by
        rcases hbm with ⟨o', ho'⟩ | hbm
        · have : o' = o := by have := F₁.keep b o' ho'; rw [q] at this; exact (Option.some.inj this).symm
          exact this ▸ F₃.keep b o' ho'
        · exact kown b (List.mem_cons_of_mem _ hbm) o (hs₂.extBut b o (fun z => hLX (z ▸ List.mem_cons_of_mem _ hbm)) q)
      refine ⟨all.length + 1 - (j + 1), by omega, h', tk', gens', m₃, nx₃, j + 1, X₁, rfl, ?_, hb₁, F₃, fun p hp => N₃ p (hn₃ p hp), ha₃, hJ₃, hlt, ?_, rfl⟩
      · obtain ⟨o, nm, qn, ho, r⟩ := S₁.gen
        exact S₁.moved ⟨o, nm, qn, kown a (List.mem_cons_self ..) o (hs₂.extBut a o haL ho), r⟩ (hlim.keeps F₃.keep) kbase
      · cases he : e with
        | true => exact .inl rfl
        | false =>
          rcases Nat.lt_or_ge (j + 1) all.length with q | q
          · exact .inr q
          · have : j + 1 = all.length := by omega
            exact absurd (this ▸ hJ₃) (hlast he _ _)
    cases f with
    | ret v => exact h₃
    | brk => exact h₃
    | next => exact fin h₃
    | cont => exact fin h₃
  · have hj' : j = all.length := by omega
    subst hj'
    have he : e = true := hcont.resolve_right (Nat.lt_irrefl _)
    refine next_end hh hroom he S' hb' fun h₁ tk₁ gens' hk₁ hb₁ => wpAny_execs_nil ?_
    obtain ⟨F₁, N₁⟩ := next h₁ hk₁
    exact done he m' nx _ ⟨_, _, _, rfl⟩ hb₁ hJ' F₁ N₁
end
end Mine
end
section
open PySem PySem.W PyProof.Rows PySem.Calls PySem.Spec
set_option maxHeartbeats 4000000
namespace Mine
section
variable {prog : Program} {w : World} {A : Around} {h₀ : Heap} {L ax f : Addr} {m : Str → Option Value} {news : List (Addr × Obj)} {s : Shared} {Q E : Value → Shared → Prop} {items : Array Value} {G all : List Int} {e : Bool} {K : Frag}
  {name qual : Str} {params : Arguments} {body : List Stmt} {scope : Scope} {dV kV doc pm cdv ct oc : Value} {an od : Option Addr} {osl : Array (Option Value)} {tk127 : Tok} {mg mb : Str → Option Value} {mean : ExcName → Option Value} {p : Program} {loose : List Str}
theorem call_gen (P : GPos) (rb : List Stmt) {px pl pn pg pa pf : Pos} {kn : Nat} (hh : A.handled = none) (hroom : A.depth < recursionLimit) (F : Fr h₀ L s.heap m) (X₀ : K.In h₀) (N : News h₀ L s.heap news)
    (T : Top p loose mean mg mb h₀)
    (hax : s.heap.IsList ax items) (hi : IntsAre items.toList G) (hg : Gives G none all e) (hne : e = true ∨ all ≠ []) (hb : AllBare s.gens)
    (ho : K.lookup f = some ⟨oc, od, .func (fnOf name qual params body scope dV kV doc pm an cdv ct), osl⟩) (hcd : codeIn K cdv qual = true)
    (hbind : bindArgs (fnOf name qual params body scope dV kV doc pm an cdv ct) ⟨[.ref ax], []⟩ = pure [(nG, .ref ax)])
    (hbody : body = [.Assign [.Name nL pl] (.Constant .none kn pn) pa, .For (.Name nI px) (.Name nG pg) (gbody P rb) [] pf])
    (hk : scope.kind = .function) (hco : scope.isCoroutine = false) (hgen : scope.isGenerator = true) (hcell : ∀ x ∈ scope.names, x.2 ≠ .cell) (hloc : scope.names.lookup nG = some .local)
    (hkI : ∀ C, (envOf qual scope C f cdv).kindOf nI = some .local) (hkL : ∀ C, (envOf qual scope C f cdv).kindOf nL = some .local) (hkG : ∀ C, (envOf qual scope C f cdv).kindOf nG = some .local) (hkM : ∀ C, (envOf qual scope C f cdv).kindOf nM = some .globalImplicit)
    (hsw : ∀ C (t : Option PySem.Expr) (ln : Nat) (q : Pos), swapsWith (.Name nI q) t ln (envOf qual scope C f cdv) = pure false) (hsn : ∀ C, swapsWith (.Constant .none kn pn) (some (.Name nL pl)) pa.line (envOf qual scope C f cdv) = pure false) (hia : ∀ C, interactive (envOf qual scope C f cdv) = false)
    (hfold : ∀ C x, foldedSetIterable (.Name nG pg) (envOf qual scope C f cdv) x = pure x)
    (hcm : nsIn K mainGlobals nM = some (some (.int 127 tk127)))
    (h : ∀ a C g h' tk gens', GAt prog w A h₀ a g (Pr (a + 1) C) C ax all e 0 [C, ax, a] { s with heap := h', toks := tk, gens := gens' } → AllBare gens' → Fr h₀ L h' m → News h₀ L h' news →
      L < C → (∀ p ∈ news, p.1 < C) → ax < C → C < a → h₀.get? a = none → h₀.get? C = none → Q (.ref a) { s with heap := h', toks := tk, gens := gens' }) :
    wpAny (model prog w) A (call (.ref f) [.ref ax]) Q E s := by
  subst hbody
  have hnl := T.nolimit
  refine wpAny_call (codeAny_call_generator hroom (F.keep _ _ (X₀ _ _ ho)) rfl hco hgen rfl ((codeRec_of X₀ hcd).keeps F.keep) ?_)
  rw [hbind]
  refine wpAny_pure (wpAny_newFunctionEnv hcell (fun x hx => by rw [List.mem_singleton.mp hx]; exact hloc) (fun h₁ hn₁ hs₁ => ?_) hk)
  have hsz : h₁.objs.size = s.heap.objs.size + 1 := by rw [hs₁.1, Heap.size_push]
  have keep₁ : ∀ b o, s.heap.get? b = some o → h₁.get? b = some o := fun b o q => hs₁.extBut b o (Nat.ne_of_lt (Heap.lt_size q)) (Heap.get?_push_of_some _ q)
  refine ⟨hnl.keeps fun b o q => keep₁ b o (F.keep b o q), ?_⟩
  have keep₂ : ∀ (ob : Obj) b o, s.heap.get? b = some o → (h₁.push ob).get? b = some o := fun ob b o q => Heap.get?_push_of_some _ (keep₁ b o q)
  have hL : L < s.heap.objs.size := F.ns.lt
  have hnone : ∀ b, s.heap.objs.size ≤ b → h₀.get? b = none := fun b hb' => Heap.get?_none_of_le (Nat.le_trans (Nat.le_of_lt (Nat.lt_of_le_of_lt F.above hL)) hb')
  have haxl : ax < s.heap.objs.size := by obtain ⟨o, ho', _⟩ := hax; exact Heap.lt_size ho'
  refine h h₁.objs.size s.heap.objs.size s.gens.size _ _ _ ⟨⟨_, _, _, Heap.get?_push_size _ rfl, rfl, rfl, rfl⟩, hnl.keeps fun b o q => keep₂ _ b o (F.keep b o q), by simp, fun b hb' => ?_, fun _ => ⟨_, Array.getElem?_push_size .., fun s'' hal => ⟨rfl, ?_⟩⟩⟩ (hb.push rfl) ⟨F.ns.keeps (keep₂ _), fun b o q => keep₂ _ b o (F.keep b o q), F.above⟩ (fun q hq => ⟨keep₂ _ _ _ (N q hq).1, (N q hq).2⟩) hL (fun q hq => Heap.lt_size (N q hq).1) haxl (by rw [hsz]; exact Nat.lt_succ_self _) (hnone _ (by rw [hsz]; exact Nat.le_succ _)) (hnone _ (Nat.le_refl _))
  · simp only [List.mem_cons, List.not_mem_nil, or_false] at hb'
    rcases hb' with rfl | rfl | rfl
    · exact .inl rfl
    · exact .inr (.inl rfl)
    · exact .inr (.inr (.inl rfl))
  · have hC : ¬ Pr (h₁.objs.size + 1) s.heap.objs.size s.heap.objs.size := fun q => q.2 rfl
    have hk'' : ∀ b o, h₀.get? b = some o → s''.heap.get? b = some o := fun b o q => hal b o (.inl ⟨o, q⟩) (keep₂ _ b o (F.keep b o q))
    refine seg_gstart (env := envOf qual scope s.heap.objs.size f cdv) P rb (show A.in1.handled = none from hh) hC (Ne.symm (Nat.ne_of_lt haxl)) (hnone _ (Nat.le_refl _)) rfl hk hco (by show (scope.kind == .class || (scope.kind == .module && _)) = false; rw [hk]; rfl) (hsw _) (hsn _) (hia _) (hkI _) (hkL _) (hkG _)
      (fun A' pos Q' E' s₂ hk₂ hq => Name_function_global hk (hkM _) (loadGlobal_global (env := envOf qual scope s.heap.objs.size f cdv) (T.g.keeps hk₂) (mg_of X₀ T.g hcm) (hq _)) (by decide)) (hfold _) hg hne hi (m := fun x => [(nG, Value.ref ax)].reverse.lookup x) (fun b hb' => ?_) hk'' ?_ ?_ rfl
    · have ha : h₁.objs.size < s''.heap.objs.size := Heap.lt_size (hal _ _ (.inr (by simp)) (Heap.get?_push_size _ rfl))
      exact Nat.lt_of_lt_of_le hb'.1 ha
    · exact hax.at fun o q => hal _ o (.inr (by simp)) (keep₂ _ _ o q)
    · exact (hn₁.push _).at' fun o q => hal _ o (.inr (by simp)) q
end
theorem call28 (w : World) (mean : ExcName → Option Value) (mg mb : Str → Option Value) {A : Around} {h₀ : Heap} {L ax : Addr} {m : Str → Option Value} {news : List (Addr × Obj)} {s : Shared} {Q E : Value → Shared → Prop} {items : Array Value} {G all : List Int} {e : Bool}
    (hh : A.handled = none) (hroom : A.depth < recursionLimit) (F : Fr h₀ L s.heap m) (X₀ : (hd.heap_1 w.params).In h₀) (N : News h₀ L s.heap news)
    (T : Top hd.view_1 (looseW hd.view_1 [Str.ofString "COMPILER_FLAG_NAMES"]) mean mg mb h₀)
    (hax : s.heap.IsList ax items) (hi : IntsAre items.toList G) (hg : Gives G none all e) (hne : e = true ∨ all ≠ []) (hb : AllBare s.gens)
    (h : ∀ a C g h' tk gens', GAt PySem.Challenge.rw_wn0054_01.row.prog w A h₀ a g (Pr (a + 1) C) C ax all e 0 [C, ax, a] { s with heap := h', toks := tk, gens := gens' } → AllBare gens' → Fr h₀ L h' m → News h₀ L h' news →
      L < C → (∀ p ∈ news, p.1 < C) → ax < C → C < a → h₀.get? a = none → h₀.get? C = none → Q (.ref a) { s with heap := h', toks := tk, gens := gens' }) :
    wpAny (model PySem.Challenge.rw_wn0054_01.row.prog w) A (call (.ref 28) [.ref ax]) Q E s := by
  refine call_gen (K := hd.heap_1 w.params) (f := 28) ⟨_, _, _, _, _, _, _, _, _, _, _, _, _, _, _, _, _, _, _, _, _, _, _, _, _, _, _⟩ _ hh hroom F X₀ N T hax hi hg hne hb (by with_unfolding_all rfl) (by rfl) (by rfl) (by rfl) (by rfl) (by rfl) (by rfl) (by decide) (by rfl) (fun _ => by rfl) (fun _ => by rfl) (fun _ => by rfl) (fun _ => by rfl) (fun _ _ _ _ => by rfl) (fun _ => by rfl) (fun _ => by rfl) (fun _ _ => by rfl) (by with_unfolding_all rfl) h
end Mine
end
section
open PySem PySem.W PyProof.Rows PySem.Calls PySem.Spec PyProof.V
namespace Mine
section
variable {prog : Program} {w : World} {A : Around} {s : Shared} {h₀ : Heap} {env : Env} {x : Str} {body : List Stmt} {Q : Flow → Shared → Prop} {E : Value → Shared → Prop}

noncomputable def GLoopAt (prog : Program) (w : World) (A : Around) (h₀ : Heap) (env : Env) (x : Str) (body : List Stmt) (Q : Flow → Shared → Prop) (E : Value → Shared → Prop) (it : Value) (s : Shared) : Prop :=
  ∃ (a C ax : Addr) (g : Nat) (all : List Int) (e : Bool) (N : Nat) (m : Str → Option Value) (news : List (Addr × Obj)) (X : List Addr) (J : Nat → (Str → Option Value) → List (Addr × Obj) → Prop),
    it = .ref a ∧ A.handled = none ∧ A.depth < recursionLimit ∧ h₀.NoLimit ∧ GAt prog w A h₀ a g (Pr N C) C ax all e 0 X s ∧ AllBare s.gens ∧ Fr h₀ env.locals s.heap m ∧ News h₀ env.locals s.heap news ∧
    a < N ∧ a ≠ C ∧ h₀.get? a = none ∧ a ≠ env.locals ∧ h₀.get? C = none ∧ C ≠ env.locals ∧ ax ≠ env.locals ∧ env.locals < N ∧ (∀ p ∈ news, p.1 < N ∧ p.1 ≠ C ∧ p.1 ≠ ax ∧ p.1 ≠ a) ∧ J 0 m news ∧ (e = false → ∀ m n, ¬ J all.length m n) ∧ (e = true ∨ 0 < all.length) ∧
    (∀ j y t m₁ news₁ s₁ own, (∃ h tk gs, s₁ = { s with heap := h, toks := tk, gens := gs }) → AllBare s₁.gens → all[j]? = some y → news₁.map (·.1) = news.map (·.1) → OwnOff own (news.map (·.1)) → J j m₁ news₁ →
      Fr h₀ env.locals s₁.heap (fun z => if z = x then some (.int y t) else m₁ z) → News h₀ env.locals s₁.heap (news₁ ++ own) →
      wpAny (model prog w) A (execs body env) (InvPostN h₀ env.locals (J (j + 1)) own (news.map (·.1)) s₁ Q) E s₁) ∧
    (e = true → ∀ m₁ news₁ s₁, (∃ h tk gs, s₁ = { s with heap := h, toks := tk, gens := gs }) → AllBare s₁.gens → J all.length m₁ news₁ → Fr h₀ env.locals s₁.heap m₁ → News h₀ env.locals s₁.heap news₁ → Q .next s₁)

theorem For_gen {m : Str → Option Value} {px pos : Pos} {iter : PySem.Expr} (_F : Fr h₀ env.locals s.heap m) (hx : env.kindOf x = some .local) (hp : (env.scope.kind == .class || (env.scope.kind == .module && env.locals != env.globals)) = false)
    (h : wpAny (model prog w) A (eval iter env) (fun xv s₁ => wpAny (model prog w) A (pyIter xv) (fun it s₂ => GLoopAt prog w A h₀ env x body Q E it s₂) E s₁) E s)
    (hs : ∀ x, foldedSetIterable iter env x = pure x)
    (hE : PassesOwn (model prog w) A env E) :
    wpAny (model prog w) A (exec (.For (.Name x px) iter body [] pos) env) Q E s := by
  refine wpAny_For (wpAny_mono h (fun xv s₁ h₁ => wpAny_mono h₁ (fun it s₂ h₂ => ?_) fun _ _ e => e) fun _ _ e => e) hs
  obtain ⟨a, C, ax, g, all, e, N, m, news, X, J, rfl, hh, hroom, hlim, S, hb, F, N₀, haN, haC, hah, haL, hCh, hCL, hxL, hLN, hnews, hJ, hlast, h0, turn, done⟩ := h₂
  refine gen_loop (R := fun r s' => match r with | .ok f => Q f s' | .error e => cameBackBy (model prog w) A env E e s') hh hroom hx hp hlim S hb F N₀ haN haC hah haL hCh hCL hxL hLN hnews J hJ hlast h0 ?_ done
  intro j y t m₁ news₁ s₁ own h1 h2 h3 h4 h5 h6 h7 h8
  exact wpAny_passesOwn hE (turn j y t m₁ news₁ s₁ own h1 h2 h3 h4 h5 h6 h7 h8)

theorem gloop_kst {σ : Type} {a C ax : Addr} {g : Nat} {all : List Int} {e : Bool} {m₀ : Str → Option Value} {news : List (Addr × Obj)} (Led : σ → List (Addr × Obj)) (ps : σ → List (Str × Value)) (Facts : σ → Prop) (stored : List Str) (P : List Int → σ → Prop) (c₀ : σ)
    (hh : A.handled = none) (hroom : A.depth < recursionLimit) (hlim : h₀.NoLimit) (S : GAt prog w A h₀ a g (Pr (a + 1) C) C ax all e 0 [C, ax, a] s) (hb : AllBare s.gens) (F : Fr h₀ env.locals s.heap m₀) (N₀ : News h₀ env.locals s.heap news)
    (hLC : env.locals < C) (hnC : ∀ p ∈ news, p.1 < C) (hxC : ax < C) (hCa : C < a) (hah : h₀.get? a = none) (hCh : h₀.get? C = none) (hxL : ax ≠ env.locals)
    (hsub : ∀ p ∈ Led c₀, p ∈ news) (hnx : ∀ p ∈ Led c₀, p.1 ≠ ax) (hf : Facts c₀) (hk : ∀ p ∈ ps c₀, m₀ p.1 = some p.2) (hp : P [] c₀) (hlast : e = false → ∀ c, ¬ P all c) (h0 : e = true ∨ 0 < all.length)
    (turn : ∀ (c : σ) pre post y t (u : Str → Option Value) h tk gs own, AllBare gs → all = pre ++ y :: post → OwnOff own ((Led c₀).map (·.1)) → Facts c → P pre c →
      Fr h₀ env.locals h (fun z => if z = x then some (.int y t) else kstB (fun z => if stored.contains z then u z else m₀ z) (ps c) z) → News h₀ env.locals h (Led c ++ own) →
      wpAny (model prog w) A (execs body env) (InvPostN h₀ env.locals (KstS Led ps Facts x stored m₀ P (pre ++ [y])) own ((Led c₀).map (·.1)) { s with heap := h, toks := tk, gens := gs } Q) E { s with heap := h, toks := tk, gens := gs })
    (done : e = true → ∀ (c : σ) (u : Str → Option Value) h tk gs, AllBare gs → Facts c → P all c → Fr h₀ env.locals h (fun y => if y = x then u y else kstB (fun z => if stored.contains z then u z else m₀ z) (ps c) y) → News h₀ env.locals h (Led c) → Q .next { s with heap := h, toks := tk, gens := gs }) :
    GLoopAt prog w A h₀ env x body Q E (.ref a) s := by
  refine ⟨a, C, ax, g, all, e, a + 1, m₀, Led c₀, [C, ax, a], fun j m nx => KstS Led ps Facts x stored m₀ P (all.take j) m nx, rfl, hh, hroom, hlim, S, hb, F, fun p hp => N₀ p (hsub p hp), Nat.lt_succ_self _, Nat.ne_of_gt hCa, hah, ?_, hCh, Nat.ne_of_gt hLC, hxL, ?_, fun p hp => ?_, ⟨c₀, rfl, hf, hk, fun _ _ _ _ => rfl, by simpa using hp⟩, fun he m n => ?_, h0, ?_, ?_⟩
  · exact Nat.ne_of_gt (Nat.lt_trans hLC hCa)
  · exact Nat.lt_succ_of_lt (Nat.lt_trans hLC hCa)
  · have := hnC p (hsub p hp)
    exact ⟨Nat.lt_succ_of_lt (Nat.lt_trans this hCa), Nat.ne_of_lt this, hnx p hp, Nat.ne_of_lt (Nat.lt_trans this hCa)⟩
  · rintro ⟨c, _, _, _, _, hP⟩
    rw [List.take_length] at hP
    exact hlast he c hP
  · rintro j y t m₁ news₁ s₁ own ⟨h, tk, gs, rfl⟩ hbs hy hadr hoff ⟨c, rfl, hf', h1, h2, hp'⟩ F₁ N₁
    have hs : all.take (j + 1) = all.take j ++ [y] := by simp [List.take_add_one, hy]
    have ea : all = all.take j ++ y :: all.drop (j + 1) := by
      have ht := List.take_append_drop (j + 1) all
      rw [hs, List.append_assoc] at ht
      exact ht.symm
    show wpAny _ _ _ (InvPostN _ _ (KstS Led ps Facts x stored m₀ P (all.take (j + 1))) _ _ _ _) _ _
    rw [hs]
    exact turn c _ _ y t m₁ h tk gs own hbs ea hoff hf' hp' (kst_fr h1 h2 F₁) N₁
  · rintro he m₁ news₁ s₁ ⟨h, tk, gs, rfl⟩ hbs ⟨c, rfl, hf', h1, h2, hp'⟩ F₁ N₁
    rw [List.take_length] at hp'
    exact done he c m₁ h tk gs hbs hf' hp' (kst_frOut h1 h2 F₁) N₁
end
end Mine
end
section
open PySem PySem.W PyProof.Rows
namespace Mine
theorem cps_size (x : Str) : x.cps.size = x.length := rfl
theorem item_last {x : Str} {l : List Nat} {c : Nat} (h : x.cps.toList = l ++ [c]) : Txt.item x (-1) = ⟨#[c]⟩ := by
  have hs : x.cps.size = l.length + 1 := by rw [← Array.length_toList, h]; simp
  have hlen : x.length = l.length + 1 := hs
  unfold Txt.item Txt.charAt seqIndex?
  rw [hlen]
  have e1 : (-1 : Int) < 0 := by decide
  have e2 : (-1 : Int) + ((l.length + 1 : Nat) : Int) = (l.length : Int) := by omega
  simp only [e1, if_true, e2]
  have e3 : (decide (0 ≤ (l.length : Int)) && decide ((l.length : Int) < ((l.length + 1 : Nat) : Int))) = true := by
    simp only [Bool.and_eq_true, decide_eq_true_eq]; omega
  rw [if_pos e3]
  have e4 : x.cps[l.length]? = some c := by rw [← Array.getElem?_toList, h]; simp
  simp [e4]

noncomputable def good (text sign : Str) (n : Int) : Bool := decide (strcoll ⟨#[n.toNat]⟩ sign ≤ 0) == decide (strcoll (Txt.item text (-1)) sign ≤ 0)
@[irreducible] noncomputable def szp (text sign : Str) (pre : List Int) : List Int × Int := pre.foldl (fun a n => if good text sign n then (a.1 ++ [a.2 + 1], 0) else (a.1, a.2 + 1)) ([], 0)
theorem szp_nil (text sign : Str) : szp text sign [] = ([], 0) := by unfold szp; rfl
theorem szp_snoc (text sign : Str) (pre : List Int) (n : Int) : szp text sign (pre ++ [n]) = if good text sign n then ((szp text sign pre).1 ++ [(szp text sign pre).2 + 1], 0) else ((szp text sign pre).1, (szp text sign pre).2 + 1) := by
  unfold szp; rw [List.foldl_append]; rfl
noncomputable def SInv (text sign : Str) (pre : List Int) (size : Int) (sizes : List Int) : Prop := sizes = (szp text sign pre).1 ∧ size = (szp text sign pre).2
theorem SInv_nil (text sign : Str) : SInv text sign [] 0 [] := by unfold SInv; rw [szp_nil]; exact ⟨rfl, rfl⟩
theorem st_good {text sign : Str} {pre : List Int} {n : Nat} {size : Int} {ns : List Int} (hi1 : SInv text sign pre size ns) (hi2 : 0 ≤ size) (hi3 : size ≤ pre.length) (hi4 : ns.length ≤ pre.length) (hg : (decide (strcoll { cps := #[n] } sign ≤ 0) == decide (strcoll (Txt.item text (-1)) sign ≤ 0)) = true) :
    SInv text sign (pre ++ [(n : Int)]) 0 (ns ++ [size + 1]) ∧ (0 : Int) ≤ 0 ∧ 0 ≤ ((pre ++ [(n : Int)]).length : Int) ∧ (ns ++ [size + 1]).length ≤ (pre ++ [(n : Int)]).length := by
  have hg' : good text sign n = true := by unfold good; rw [Int.toNat_natCast]; exact hg
  refine ⟨?_, Int.le_refl _, by omega, by simp only [List.length_append, List.length_cons, List.length_nil]; omega⟩
  obtain ⟨h1, h2⟩ := hi1
  refine ⟨?_, ?_⟩
  · rw [szp_snoc, if_pos hg', ← h1, ← h2]
  · rw [szp_snoc, if_pos hg']
theorem st_bad {text sign : Str} {pre : List Int} {n : Nat} {size : Int} {ns : List Int} (hi1 : SInv text sign pre size ns) (hi2 : 0 ≤ size) (hi3 : size ≤ pre.length) (hi4 : ns.length ≤ pre.length) (hg : (decide (strcoll { cps := #[n] } sign ≤ 0) == decide (strcoll (Txt.item text (-1)) sign ≤ 0)) = false) :
    SInv text sign (pre ++ [(n : Int)]) (size + 1) ns ∧ (0 : Int) ≤ size + 1 ∧ size + 1 ≤ ((pre ++ [(n : Int)]).length : Int) ∧ ns.length ≤ (pre ++ [(n : Int)]).length := by
  have hg' : ¬ good text sign n = true := by unfold good; rw [Int.toNat_natCast, hg]; decide
  refine ⟨?_, by omega, by simp only [List.length_append, List.length_cons, List.length_nil]; omega, by simp only [List.length_append, List.length_cons, List.length_nil]; omega⟩
  obtain ⟨h1, h2⟩ := hi1
  refine ⟨?_, ?_⟩
  · rw [szp_snoc, if_neg hg', ← h1]
  · rw [szp_snoc, if_neg hg', ← h2]

theorem snoc_ind {α : Type} {P : List α → Prop} (h0 : P []) (h1 : ∀ l a, P l → P (l ++ [a])) (l : List α) : P l := by
  have : ∀ l : List α, P l.reverse := by
    intro l
    induction l with
    | nil => exact h0
    | cons a r ih => rw [List.reverse_cons]; exact h1 _ _ ih
  have := this l.reverse
  rwa [List.reverse_reverse] at this
/-- what the pieces are: at least one sign each, all the signs together -/
theorem szp_facts (text sign : Str) : ∀ pre : List Int, 0 ≤ (szp text sign pre).2 ∧ (∀ y ∈ (szp text sign pre).1, 1 ≤ y) ∧ (szp text sign pre).1.sum + (szp text sign pre).2 = pre.length := by
  refine snoc_ind (by rw [szp_nil]; simp) fun l a ih => ?_
  rw [szp_snoc]
  obtain ⟨h1, h2, h3⟩ := ih
  by_cases hg : good text sign a = true
  · rw [if_pos hg]
    refine ⟨Int.le_refl _, fun y hy => ?_, ?_⟩
    · rcases List.mem_append.mp hy with h | h
      · exact h2 y h
      · rw [List.mem_singleton.mp h]; omega
    · simp only [List.sum_append, List.sum_cons, List.sum_nil, List.length_append, List.length_cons, List.length_nil]; omega
  · rw [if_neg hg]
    exact ⟨by show 0 ≤ (szp text sign l).2 + 1; omega, h2, by simp only [List.length_append, List.length_cons, List.length_nil]; omega⟩
theorem le_sum {l : List Int} (h : ∀ y ∈ l, 1 ≤ y) : ∀ y ∈ l, y ≤ l.sum := by
  induction l with
  | nil => intro y hy; cases hy
  | cons a r ih =>
    have hr : 0 ≤ r.sum := by
      have : ∀ l : List Int, (∀ y ∈ l, 1 ≤ y) → 0 ≤ l.sum := by
        intro l hl
        induction l with
        | nil => exact Int.le_refl _
        | cons b q ih' => rw [List.sum_cons]; have := hl b (List.mem_cons_self ..); have := ih' fun y hy => hl y (List.mem_cons_of_mem _ hy); omega
      exact this r fun y hy => h y (List.mem_cons_of_mem _ hy)
    have ha := h a (List.mem_cons_self ..)
    intro y hy
    rw [List.sum_cons]
    rcases List.mem_cons.mp hy with rfl | hy
    · omega
    · have := ih (fun y hy => h y (List.mem_cons_of_mem _ hy)) y hy; omega
set_option genSizeOf false in
set_option genInjectivity false in
/-- the pieces of a whole text -/
structure Pieces (text : Str) (ns : List Int) : Prop where
  ne : ns ≠ []
  pos : ∀ y ∈ ns, 1 ≤ y ∧ y ≤ text.length
  sum : ns.sum = text.length
theorem SInv_full {text sign : Str} {size : Int} {ns : List Int} (h : SInv text sign (KStt.codes text) size ns) (hne : 1 ≤ text.length) : Pieces text ns := by
  obtain ⟨l, c, hlc⟩ : ∃ l c, text.cps.toList = l ++ [c] := by
    have : text.cps.toList ≠ [] := fun q => by
      have : text.length = 0 := by show text.cps.size = 0; rw [← Array.length_toList, q]; rfl
      omega
    exact ⟨text.cps.toList.dropLast, text.cps.toList.getLast this, (List.dropLast_concat_getLast this).symm⟩
  have hc : KStt.codes text = KStt.codes ⟨l.toArray⟩ ++ [(c : Int)] := by
    unfold KStt.codes; rw [hlc]; simp
  have hg : good text sign (c : Int) = true := by
    unfold good; rw [Int.toNat_natCast, item_last hlc]; simp
  obtain ⟨h1, h2⟩ := h
  have hz := szp_facts text sign (KStt.codes text)
  have h0 : (szp text sign (KStt.codes text)).2 = 0 := by rw [hc, szp_snoc, if_pos hg]
  have hn : (szp text sign (KStt.codes text)).1 ≠ [] := by rw [hc, szp_snoc, if_pos hg]; simp
  rw [← h1] at hz hn
  rw [h0, KStt.codes_length, Int.add_zero] at hz
  exact ⟨hn, fun y hy => ⟨hz.2.1 y hy, hz.2.2 ▸ le_sum hz.2.1 y hy⟩, hz.2.2⟩

theorem gives_go {r its : List Int} {e : Bool} : ∀ {ns : List Int} {l : Option Int}, (∀ y ∈ ns, y ≠ 127 ∧ y ≠ 0) → Gives r (match ns.getLast? with | some y => some y | none => l) its e → Gives (ns ++ r) l (ns ++ its) e
  | [], l, _, h => by simpa using h
  | x :: q, l, hp, h => by
    refine .item x (q ++ r) l (q ++ its) e (hp x (List.mem_cons_self ..)).1 (hp x (List.mem_cons_self ..)).2 (gives_go (fun y hy => hp y (List.mem_cons_of_mem _ hy)) ?_)
    cases q with
    | nil => simpa using h
    | cons z q' =>
      have e : (x :: z :: q').getLast? = (z :: q').getLast? := by simp [List.getLast?_cons_cons]
      rw [e] at h
      cases hq : (z :: q').getLast? with
      | none => simp at hq
      | some v => rw [hq] at h; exact h
theorem Pieces.ok {text : Str} {ns : List Int} (P : Pieces text ns) (hl : text.length ≤ 7) : ∀ y ∈ ns, y ≠ 127 ∧ y ≠ 0 := fun y hy => by
  have := P.pos y hy; omega
theorem gives_odd {text : Str} {ns : List Int} (P : Pieces text ns) (hl : text.length ≤ 7) : Gives ns none ns true := by
  have := gives_go (r := []) (its := []) (e := true) (l := none) (P.ok hl) (.nil _)
  rwa [List.append_nil] at this
theorem gives_pair {text : Str} {ns : List Int} (P : Pieces text ns) (hl : text.length ≤ 7) : Gives (ns ++ [127, 9]) none ns true := by
  have := gives_go (r := [127, 9]) (its := []) (e := true) (l := none) (P.ok hl) (.max _ _)
  rwa [List.append_nil] at this
theorem gives_even {text : Str} {ns : List Int} (P : Pieces text ns) (hl : text.length ≤ 7) (he : (ns.drop (ns.length - 2)).take (ns.length - 1 - (ns.length - 2)) = ns.drop (ns.length - 1)) :
    Gives (ns.take (ns.length - 1) ++ [0, 9]) none (ns ++ ns.drop (ns.length - 1)) false := by
  obtain ⟨q, y, rfl⟩ : ∃ q y, ns = q ++ [y] := ⟨ns.dropLast, ns.getLast P.ne, (List.dropLast_concat_getLast P.ne).symm⟩
  have e1 : (q ++ [y]).length - 1 = q.length := by simp
  rw [e1] at he ⊢
  have e2 : (q ++ [y]).drop q.length = [y] := by simp
  have e3 : (q ++ [y]).take q.length = q := by simp
  rw [e2] at he ⊢
  rw [e3]
  rcases List.eq_nil_or_concat q with rfl | ⟨q', z, rfl⟩
  · simp at he
  · have e4 : (q' ++ [z] ++ [y]).length - 2 = q'.length := by simp
    rw [List.concat_eq_append] at *
    rw [e4] at he
    have e5 : (q' ++ [z] ++ [y]).drop q'.length = [z, y] := by simp
    rw [e5] at he
    have e6 : (q' ++ [z]).length - q'.length = 1 := by simp
    rw [e6] at he
    have hz : z = y := by simpa using he
    subst hz
    have := gives_go (r := [0, 9]) (its := List.replicate 2 z) (e := false) (l := none) (ns := q' ++ [z]) (fun y hy => P.ok hl y (List.mem_append_left _ hy)) (by simpa using Gives.zero [9] z 2)
    simpa [List.replicate] using this
end Mine
end
section
open PySem PySem.W PyProof.Rows PySem.Calls PySem.Spec PyProof.V
namespace Mine
theorem call28L (w : World) (mean : ExcName → Option Value) (mg mb : Str → Option Value) {A : Around} {h₀ : Heap} {L ax : Addr} {m : Str → Option Value} {news : List (Addr × Obj)} {s : Shared} {Q E : Value → Shared → Prop} {vs : List Value} {G all : List Int} {e : Bool}
    (hg : Gives G none all e) (hne : e = true ∨ all ≠ []) (hh : A.handled = none) (hroom : A.depth < recursionLimit) (F : Fr h₀ L s.heap m) (X₀ : (hd.heap_1 w.params).In h₀) (N : News h₀ L s.heap news)
    (T : Top hd.view_1 (looseW hd.view_1 [Str.ofString "COMPILER_FLAG_NAMES"]) mean mg mb h₀)
    (hax : s.heap.IsList ax vs.toArray) (hi : IntsAre vs G) (hb : AllBare s.gens)
    (h : ∀ a C g h' tk gens', GAt PySem.Challenge.rw_wn0054_01.row.prog w A h₀ a g (Pr (a + 1) C) C ax all e 0 [C, ax, a] { s with heap := h', toks := tk, gens := gens' } → AllBare gens' → Fr h₀ L h' m → News h₀ L h' news →
      L < C → (∀ p ∈ news, p.1 < C) → ax < C → C < a → h₀.get? a = none → h₀.get? C = none → Q (.ref a) { s with heap := h', toks := tk, gens := gens' }) :
    wpAny (model PySem.Challenge.rw_wn0054_01.row.prog w) A (call (.ref 28) [.ref ax]) Q E s :=
  call28 w mean mg mb hh hroom F X₀ N T hax (by simpa using hi) hg hne hb h
section
variable {prog : Program} {w : World} {A : Around} {s : Shared} {h₀ : Heap} {env : Env} {x : Str} {body : List Stmt} {Q : Flow → Shared → Prop} {E : Value → Shared → Prop}
theorem gloop_told {a C ax at_ as_ : Addr} {g : Nat} {all : List Int} {e : Bool} {m₀ : Str → Option Value} {news tl : List (Addr × Obj)} {vs : List Value} {ep ep0 : Nat}
    (S : GAt prog w A h₀ a g (Pr (a + 1) C) C ax all e 0 [C, ax, a] s) (hb : AllBare s.gens) (F : Fr h₀ env.locals s.heap m₀) (N₀ : News h₀ env.locals s.heap news)
    (hLC : env.locals < C) (hnC : ∀ p ∈ news, p.1 < C) (hxC : ax < C) (hCa : C < a) (hah : h₀.get? a = none) (hCh : h₀.get? C = none) (hlim : h₀.NoLimit) (h0 : e = true ∨ 0 < all.length)
    (hh : A.handled = none) (hroom : A.depth < recursionLimit)
    (_hmt : m₀ (Str.ofString "told") = some (.ref at_)) (_hms : m₀ (Str.ofString "sizes") = some (.ref as_))
    (ht : (at_, listOf #[] ep0) ∈ news) (hs : (as_, listOf vs.toArray ep) ∈ news) (htl : ∀ p ∈ tl, p ∈ news) (hxt : at_ ≠ ax) (hxs : as_ ≠ ax) (hxtl : ∀ p ∈ tl, p.1 ≠ ax) (hxL : ax ≠ env.locals)
    (turn : ∀ (us : List Value) (n : Nat) pre post y t (u : Str → Option Value) h tk gs own, AllBare gs → all = pre ++ y :: post → OwnOff own (at_ :: as_ :: tl.map (·.1)) → IntsAre us pre → (e = false → pre.length < all.length) →
      Fr h₀ env.locals h (fun z => if z = x then some (.int y t) else if [].contains z = true then u z else m₀ z) → News h₀ env.locals h ((at_, listOf us.toArray n) :: (as_, listOf vs.toArray ep) :: (tl ++ own)) →
      wpAny (model prog w) A (execs body env) (InvPostN h₀ env.locals (KstS (fun c : List Int × List Value × Nat => (at_, listOf c.2.1.toArray c.2.2) :: (as_, listOf vs.toArray ep) :: tl) (fun _ => []) (fun c => IntsAre c.2.1 c.1) x [] m₀ (fun pre c => c.1 = pre ∧ (e = false → pre.length < all.length)) (pre ++ [y])) own (at_ :: as_ :: tl.map (·.1)) { s with heap := h, toks := tk, gens := gs } Q) E { s with heap := h, toks := tk, gens := gs })
    (done : e = true → ∀ (us : List Value) (n : Nat) (u : Str → Option Value) h tk gs, AllBare gs → IntsAre us all → Fr h₀ env.locals h (fun y => if y = x then u y else if [].contains y = true then u y else m₀ y) → News h₀ env.locals h ((at_, listOf us.toArray n) :: (as_, listOf vs.toArray ep) :: tl) → Q .next { s with heap := h, toks := tk, gens := gs }) :
    GLoopAt prog w A h₀ env x body Q E (.ref a) s := by
  refine gloop_kst (σ := List Int × List Value × Nat) (fun c => (at_, listOf c.2.1.toArray c.2.2) :: (as_, listOf vs.toArray ep) :: tl) (fun _ => []) (fun c => IntsAre c.2.1 c.1) [] (fun pre c => c.1 = pre ∧ (e = false → pre.length < all.length)) ([], [], ep0)
    hh hroom hlim S hb F N₀ hLC hnC hxC hCa hah hCh hxL ?_ ?_ .nil (fun p hp => nomatch hp) ⟨rfl, fun he => ?_⟩ ?_ h0 ?_ ?_
  · intro p hp
    rcases List.mem_cons.mp hp with rfl | hp
    · exact ht
    · rcases List.mem_cons.mp hp with rfl | hp
      · exact hs
      · exact htl p hp
  · intro p hp
    rcases List.mem_cons.mp hp with rfl | hp
    · exact hxt
    · rcases List.mem_cons.mp hp with rfl | hp
      · exact hxs
      · exact hxtl p hp
  · rcases h0 with q | q
    · rw [q] at he; cases he
    · exact q
  · rintro he c ⟨_, h2⟩
    exact absurd (h2 he) (Nat.lt_irrefl _)
  · rintro ⟨ns, us, n⟩ pre post y t u h tk gs own hbs ea hoff hf ⟨h1, h2⟩ F₁ N₁
    have h1' : ns = pre := h1
    subst h1'
    exact turn us n _ post y t u h tk gs own hbs ea hoff hf h2 F₁ N₁
  · rintro he ⟨ns, us, n⟩ u h tk gs hbs hf ⟨h1, _⟩ F₁ N₁
    have h1' : ns = all := h1
    subst h1'
    exact done he us n u h tk gs hbs hf F₁ N₁
end
end Mine
end
section
open PySem PySem.W PyProof.Rows
set_option maxHeartbeats 8000000
set_option pp.deepTerms false
set_option pp.maxSteps 3000
namespace Mine
abbrev CLG (w : World) (mean : ExcName → Option Value) (mg mb : Str → Option Value) (f : Addr) (d u : Nat) (vs : List Value) (fact : Prop) (R : Tok → Value) : Prop :=
  ∀ (news : List (Addr × Obj)) (dp un : Nat) (gd : Option (List Code)) (cn : Str) (cs : Scope) (a : Addr) (ccd : Value) (cl : List (Str × Addr)) (outer : List Env) (A₀ : Around) (base h₀ : Heap) (L : Addr) (m : Str → Option Value) (s : Shared) (Q E : Value → Shared → Prop),
    Below A₀ base outer h₀ → Fr h₀ L s.heap m → (hd.heap_1 w.params).In h₀ → News h₀ L s.heap news →
    Top hd.view_1 (looseW hd.view_1 [Str.ofString "COMPILER_FLAG_NAMES"]) mean mg mb h₀ → cs.kind = .function → dp + d < recursionLimit → un + u < cLine → AllBare s.gens →
    (∀ (t : Tok) (h' : Heap) (tk' : Nat) (gs : Array GenState), fact → AllBare gs → Fr h₀ L h' m → News h₀ L h' news → Q (R t) { s with heap := h', toks := tk', gens := gs }) →
      wpAny (model PySem.Challenge.rw_wn0054_01.row.prog w) (ktrTop dp un gd cn cs L a ccd cl outer) (call (.ref f) vs) Q E s
theorem len_made {prog : Program} {w : World} {A : Around} {E : Value → Shared → Prop} {s : Shared} {h₀ : Heap} {L l : Addr} {news : List (Addr × Obj)} {us : Array Value} {c : Nat} {Q : Value → Shared → Prop} (N : News h₀ L s.heap news) (hm : (l, listOf us c) ∈ news) (hfit : (us.size : Int) < 2 ^ 63)
    (h : Q (.int (us.size : Int) (s.toks + 1)) { s with toks := s.toks + 1 + 1 }) : wpAny (model prog w) A (call (.builtin "len") [.ref l]) Q E s := by
  have hl : s.heap.IsList l us := ⟨_, (N _ hm).1, rfl, c, rfl⟩
  exact len_list hl (by omega) h
abbrev EvenC (ns : List Int) : Prop := (ns.drop (ns.length - 2)).take (ns.length - 1 - (ns.length - 2)) = ns.drop (ns.length - 1)
noncomputable def toldOf (ns : List Int) : List Int := if EvenC ns then ns ++ ns.drop (ns.length - 1) else ns
noncomputable def TryPost (g L : Addr) (g' : Heap) (s : Shared) (m₀ : Str → Option Value) (ns : List Int) (vs : List Value) (ep : Nat) (at_ as_ : Addr) (news : List (Addr × Obj)) (s' : Shared) : Prop :=
  ∃ (us : List Value) (nu : Nat) (u : Str → Option Value) (h : Heap) (tk : Nat) (gs : Array GenState), s' = { s with heap := h, toks := tk, gens := gs } ∧ AllBare gs ∧ IntsAre us (toldOf ns) ∧
    Fr g' L h (fun z => if z = Str.ofString "size" then u z else m₀ z) ∧ News g' L h ((at_, listOf us.toArray nu) :: (as_, listOf vs.toArray ep) :: news)
theorem try_cut {M : Model} {A : Around} {t : Sem Flow} {Q : Flow → Shared → Prop} {E : Value → Shared → Prop} {s : Shared} {g' : Heap} {L at_ as_ : Addr} {m₀ : Str → Option Value} (ns : List Int) (vs : List Value) (ep : Nat) (news : List (Addr × Obj)) (_F : Fr g' L s.heap m₀)
    (_h1 : m₀ (Str.ofString "told") = some (.ref at_)) (_h2 : m₀ (Str.ofString "sizes") = some (.ref as_))
    (h : wpAny M A t (fun f s' => f = .next ∧ TryPost 0 L g' s m₀ ns vs ep at_ as_ news s') E s) (hn : ∀ (us : List Value) (nu : Nat) (u : Str → Option Value) (h : Heap) (tk : Nat) (gs : Array GenState), AllBare gs → IntsAre us (toldOf ns) →
    Fr g' L h (fun z => if z = Str.ofString "size" then u z else m₀ z) → News g' L h ((at_, listOf us.toArray nu) :: (as_, listOf vs.toArray ep) :: news) → Q .next { s with heap := h, toks := tk, gens := gs }) : wpAny M A t Q E s :=
  wpAny_mono h (fun f s' q => by obtain ⟨rfl, us, nu, u, h, tk, gs, rfl, h1, h2, h3, h4⟩ := q; exact hn us nu u h tk gs h1 h2 h3 h4) fun _ _ x => x
set_option genSizeOf false in
set_option genInjectivity false in
structure TryMark : Prop where
theorem tryMark : TryMark := ⟨⟩
@[irreducible] noncomputable def trn (text : Str) (pre : List Int) : Str × Str := pre.foldl (fun c n => (c.1 ++ (Txt.slice c.2 (some (n - 1)) (some n) ++ Txt.slice c.2 none (some (n - 1))), Txt.slice c.2 (some n) none)) (Str.empty, text)
theorem trn_nil (text : Str) : trn text [] = (Str.empty, text) := by unfold trn; rfl
theorem trn_snoc (text : Str) (pre : List Int) (n : Int) : trn text (pre ++ [n]) = ((trn text pre).1 ++ (Txt.slice (trn text pre).2 (some (n - 1)) (some n) ++ Txt.slice (trn text pre).2 none (some (n - 1))), Txt.slice (trn text pre).2 (some n) none) := by
  unfold trn; rw [List.foldl_append]; rfl
noncomputable def TInv (text : Str) (pre : List Int) (tu tx : Str) : Prop := tu = (trn text pre).1 ∧ tx = (trn text pre).2
theorem TInv_nil (text : Str) : TInv text [] (Str.ofString "") text := by unfold TInv; rw [trn_nil]; exact ⟨rfl, rfl⟩
theorem st_trn {text : Str} {pre : List Int} {n : Int} {tu tx : Str} (h1 : TInv text pre tu tx) (h2 : tx.length ≤ 7) (h3 : tu.length ≤ 14 * pre.length) :
    TInv text (pre ++ [n]) (tu ++ (Txt.slice tx (some (n - 1)) (some n) ++ Txt.slice tx none (some (n - 1)))) (Txt.slice tx (some n) none) ∧ (Txt.slice tx (some n) none).length ≤ 7 ∧ (tu ++ (Txt.slice tx (some (n - 1)) (some n) ++ Txt.slice tx none (some (n - 1)))).length ≤ 14 * (pre ++ [n]).length := by
  have e1 := Txt.slice_le tx (some n) none
  have e2 := Txt.slice_le tx (some (n - 1)) (some n)
  have e3 := Txt.slice_le tx none (some (n - 1))
  refine ⟨⟨?_, ?_⟩, by omega, ?_⟩
  · rw [trn_snoc, ← h1.1, ← h1.2]
  · rw [trn_snoc, ← h1.2]
  · rw [PySem.Str.length_append, PySem.Str.length_append, List.length_append]
    simp only [List.length_cons, List.length_nil]; omega
theorem item_made {prog : Program} {w : World} {A : Around} {E : Value → Shared → Prop} {s : Shared} {value slice : PySem.Expr} {l : Addr} {items : Array Value} {k : Int} {u : Tok} {v : Value} {Q : Value → Shared → Prop}
    (hl : s.heap.IsList l items) (h0 : 0 ≤ k) (hhi : k < 2 ^ 63) (hx : items[k.toNat]? = some v) (h : Q v s)
    (hs : subscripted slice false (.ref l) (.int k u) = operate [.ref l, .int k u] (getItem (.ref l) (.int k u))) :
    wpAny (model prog w) A (subscriptTail value slice (.ref l) (.int k u)) Q E s :=
  PyProof.Rows.tail_any hl.typeIs slot_list_getitem.lookup (wpAny_getItem_list hl h0 hhi hx h) hs
theorem brk_post {g' : Heap} {L at_ as_ : Addr} {s : Shared} {m₀ u : Str → Option Value} {ns pre post : List Int} {vs us : List Value} {ep n : Nat} {news own : List (Addr × Obj)} {y : Int} {t : Tok} {h : Heap} {tk : Nat} {gs : Array GenState}
    (ha : toldOf ns = pre ++ y :: post) (hlen : (toldOf ns).length ≤ pre.length + 1) (hI : IntsAre us pre) (hb : AllBare gs)
    (F : Fr g' L h (fun z => if z = Str.ofString "size" then some (.int y t) else if [].contains z = true then u z else m₀ z))
    (N : News g' L h ((at_, listOf (us.toArray.push (.int y t)) n) :: (as_, listOf vs.toArray ep) :: (news ++ own))) : TryPost 0 L g' s m₀ ns vs ep at_ as_ news { s with heap := h, toks := tk, gens := gs } := by
  have hp : post = [] := by
    rw [ha] at hlen
    simp only [List.length_append, List.length_cons] at hlen
    exact List.length_eq_zero_iff.mp (by omega)
  subst hp
  refine ⟨us ++ [.int y t], n, fun _ => some (.int y t), h, tk, gs, rfl, hb, ?_, ?_, ?_⟩
  · rw [ha]; exact hI.append (.cons _ _ .nil)
  · simpa using F
  · intro p hp
    rw [List.push_toArray] at N
    refine N p ?_
    simp only [List.mem_cons, List.mem_append] at hp ⊢
    rcases hp with q | q | q
    · exact .inl q
    · exact .inr (.inl q)
    · exact .inr (.inr (.inl q))
theorem done_post {g' : Heap} {L at_ as_ : Addr} {s : Shared} {m₀ u : Str → Option Value} {ns : List Int} {vs us : List Value} {ep n : Nat} {news : List (Addr × Obj)} {h : Heap} {tk : Nat} {gs : Array GenState}
    (hne : ¬ EvenC ns) (hI : IntsAre us ns) (hb : AllBare gs)
    (F : Fr g' L h (fun y => if y = Str.ofString "size" then u y else if [].contains y = true then u y else m₀ y))
    (N : News g' L h ((at_, listOf us.toArray n) :: (as_, listOf vs.toArray ep) :: news)) : Flow.next = Flow.next ∧ TryPost 0 L g' s m₀ ns vs ep at_ as_ news { s with heap := h, toks := tk, gens := gs } := by
  refine ⟨rfl, us, n, u, h, tk, gs, rfl, hb, ?_, by simpa using F, N⟩
  unfold toldOf; rw [if_neg hne]; exact hI
theorem even_told {ns : List Int} (h : (ns.drop (ns.length - 2)).take (ns.length - 1 - (ns.length - 2)) = ns.drop (ns.length - 1)) : toldOf ns = ns ++ ns.drop (ns.length - 1) := by
  unfold toldOf; rw [if_pos h]
noncomputable def turnS (text sign : Str) : Str := (trn text (szp text sign (KStt.codes text)).1).1
theorem turn_is {text sign : Str} {size : Int} {ns : List Int} {tu tx : Str} (h : SInv text sign (KStt.codes text) size ns) (hj : TInv text ns tu tx) : tu = turnS text sign := by
  unfold turnS; rw [hj.1, h.1]
theorem gives_odd' {text : Str} {ns : List Int} (P : Pieces text ns) (hl : text.length ≤ 7) : Gives (ns ++ []) none ns true := by
  rw [List.append_nil]; exact gives_odd P hl
theorem rep_len {x : Int} {l : List Int} (hx : x = 0 ∨ x = 1) : (List.replicate x.toNat l).flatten.length ≤ l.length := by
  rcases hx with rfl | rfl <;> simp
theorem mul_b {prog : Program} {w : World} {A : Around} {E : Value → Shared → Prop} {s : Shared} {h₀ : Heap} {L l : Addr} {m : Str → Option Value} {news : List (Addr × Obj)} {vs : List Value} {ns : List Int} {x : Int} {u : Tok} {Q : Value → Shared → Prop}
    (Fm : Fr h₀ L s.heap m) (N : News h₀ L s.heap news) (hl : s.heap.IsList l vs.toArray) (hi : IntsAre vs ns) (hx : x = 0 ∨ x = 1) (hsz : ns.length ≤ 1000)
    (h : ∀ D us h', Fr h₀ L h' m → News h₀ L h' ((D, listOf (List.toArray us) 0) :: news) → (∀ p ∈ news, p.1 < D) → IntsAre us (List.replicate x.toNat ns).flatten → (List.replicate x.toNat ns).flatten.length ≤ ns.length → Q (.ref D) { s with heap := h' }) :
    wpAny (model prog w) A (binaryOp .Mult (.ref l) (.int x u)) Q E s :=
  KM.mul Fm N hl hi (by rcases hx with rfl | rfl <;> decide) (by rcases hx with rfl | rfl <;> decide) (by have := hi.length; rcases hx with rfl | rfl <;> simp <;> omega) fun D h' F' N' l1 i1 _ _ _ _ _ => h D _ h' F' N' l1 i1 (rep_len hx)
theorem ne_same {prog : Program} {w : World} {A : Around} {E : Value → Shared → Prop} {s : Shared} {a b : Addr} {vs us : List Value} {ns ms : List Int} {Q : Value → Shared → Prop} (hl : s.heap.IsList a vs.toArray) (hi : IntsAre vs ns) (hl' : s.heap.IsList b us.toArray) (hi' : IntsAre us ms) (hu : A.units + 64 < cLine)
    (he : ns = ms) (h : Q (.bool false) s) : wpAny (model prog w) A (compareOp .NotEq (.ref a) (.ref b)) Q E s :=
  ne_intsK hl hi hl' hi' hu (by subst he; simpa using h)
theorem told_eq (ns : List Int) : toldOf ns = ns ++ (List.replicate (if decide ((ns.drop (ns.length - 2)).take (ns.length - 1 - (ns.length - 2)) = ns.drop (ns.length - 1)) = true then (1 : Int) else 0).toNat (ns.drop (ns.length - 1))).flatten := by
  unfold toldOf
  by_cases h : (ns.drop (ns.length - 2)).take (ns.length - 1 - (ns.length - 2)) = ns.drop (ns.length - 1)
  · simp [h]
  · simp [h]
theorem told_len (ns : List Int) : (toldOf ns).length ≤ ns.length + ns.length := by
  unfold toldOf
  split
  · rw [List.length_append, List.length_drop]; omega
  · omega
theorem c64n (w : World) (mean : ExcName → Option Value) (mg mb : Str → Option Value) (text sign : Str) (t1 t2 : Tok) (hne : 1 ≤ text.length) (hl : text.length ≤ 7) :
  CLG w mean mg mb 64 6 200 [.str text t1, .str sign t2] True (fun t => .str (turnS text sign) t) := by
  dsimp only [CLG]; w_top off; k_with_none; k_fill
  k_with "call ref" => (k_here; k_dflt (refine' c21 _ _ _ _ _ _ _ _ _ _ _ _ _ _ _ _ _ _ _ _ _ _ _ _ _ _ (by k_asm) (by k_asm) (by k_asm) (by k_asm) (by k_asm) (by first | exact rfl | assumption) (by ktr_room) (by ktr_units) ?_; k_whole); intro t9w0 h9w0 tk9w0 F9w0 N9w0; (try dsimp only); (try k_fold))
  k_with "subscriptTail Name UnaryOp str int" => (k_here; (refine item_str (by decide) ?h1 ?h2 ?_); (case h1 => omega); (case h2 => omega); k_whole; intro _)
  k_with "compareOp Eq ref ref" => (k_here; (with_unfolding_all refine' eq_intsK ?k1 ?k2 ?k3 ?k4 ?k5 ?_; (case k1 => is_list); (case k2 => l_intsC); (case k3 => is_list); (case k4 => l_intsC); (case k5 => units_room); k_whole))
  k_with "exec For Name Call cons nil" => (k_here; (rename Fr _ _ _ _ => lFqw3); (with_unfolding_all refine' For_gen (hs := by intro _; rfl) (hE := by passes_own) lFqw3 ?k1 ?k2 ?_; (case k1 => exact rfl); (case k2 => exact rfl); k_whole))
  k_with "call builtin:len" => (k_here; k_dflt (refine' len_made (by assumption) (by k_mem) (by (try simp only [Array.size_push, List.size_toArray, List.length_append, List.length_cons, List.length_nil]); omega) ?_; k_whole); (try (simp only [Array.size_push, List.size_toArray])); (try k_fold))
  k_with "exec Try" => (k_here; (fail_if_success (rename TryMark => tMxw5)); k_extra "mytry")
  k_with "binaryOp Mult ref int" => (k_here; k_dflt (refine' mul_b (by k_asm) (by k_asm) (by is_list) (by l_ints) (by split <;> simp) (by omega) ?_; k_whole); intro Dqw6 usqw6 hqw6 Fqw6 Nqw6 l1w6 hIqw6 hLqw6; (try k_lt l1w6); (try k_fold))
  k_with "binaryOp Add ref ref" => (k_here; k_dflt (refine' kmk_add_ints (by k_asm) (by k_asm) (by is_list) (by is_list) (by l_ints) (by l_ints) ?_ (by rw [PySem.sizeLine_eq]; (try simp only [List.length_cons, List.length_nil]); omega); k_whole); intro Dqw7 usqw7 hqw7 Fqw7 Nqw7 l1w7 hIqw7; (try k_lt l1w7); (try k_fold))
  k_with "compareOp NotEq ref ref" => (k_here; k_dflt (refine' ne_same (by is_list) (by l_intsC) (by is_list) (by l_intsC) (by units_room) (by exact told_eq _) ?_; k_whole); (try k_fold))
  intro news dp un gd cn cs a0 ccd cl outer A₀ base h₀ L m s Q E hB hF0 hX hN hT hk hd hu hbare hret
  replace hret := fun t h' tk' gs => hret t h' tk' gs trivial
  refine wpAny_call ?_
  k_dflt (refine' code_def (binds := [(Str.ofString "text", .str text t1), (Str.ofString "sign", .str sign t2)]) ?k1 ?k2 ?k3 ?k4 ?k5 ?kA ?kF ?kK ?k6 ?k7 ?k8 ?k9 ?kB ?_ ?c2 ?c3 ?c4 ?c5; (case kA => exact rfl); (case kF => exact rfl); (case kK => assumption); (case k1 => k_asm); (case k2 => k_asm); (case k3 => k_asm); (case k4 => k_asm); (case k5 => k_asm); (case k6 => k_is); (case k7 => k_is); (case k8 => ktr_room); (case k9 => exact BindsTo.of_eq rfl); (case c5 => decide); (case kB => exact locs rfl); (case c2 => exact rfl); (case c3 => exact rfl); (case c4 => exact rfl); k_whole; intro g' L' h' FG' F' N' B' X' T'; (try dsimp only [List.reverse_cons, List.reverse_nil, List.nil_append, List.cons_append] at F'); (try dsimp only); (try k_lift B'); (try k_fold))
  k_with "pyIter str" => k_dflt ((rename Fr _ _ _ _ => lF'); (rename News _ _ _ _ => lN'); (refine' KStt.kst_text (σ := Int × Tok × List Int × List Value × Nat) (fun c => (?ad, listOf c.2.2.2.1.toArray c.2.2.2.2) :: ?tl) (fun c => [(Str.ofString "size", .int c.1 c.2.1)]) (fun c => IntsAre c.2.2.2.1 c.2.2.1) [] (fun pre c => SInv text sign pre c.1 c.2.2.1 ∧ 0 ≤ c.1 ∧ c.1 ≤ pre.length ∧ c.2.2.1.length ≤ pre.length) (0, _, [], [], 0) (by rfl) lF' lN' ?kf ?kk ?kp ?_ ?_); (case kf => exact .nil); (case kk => kst_all); (case kp => exact ⟨SInv_nil _ _, Int.le_refl _, Int.le_refl _, Nat.le_refl _⟩); (clear lF' lN'); (all_goals (first | (rintro ⟨size, tks, ns, vs, ep⟩ pre post n t u h tk own hEq hOff hF ⟨hi1, hi2, hi3, hi4⟩ FF NN) | (rintro ⟨size, tks, ns, vs, ep⟩ u h tk hF ⟨hi1, hi2, hi3, hi4⟩ FF NN))); (all_goals (have kMark := kstMark; (dsimp only [kstB] at *); (try simp only [KStt.codes_length] at *); (have hLen := IntsAre.length hF); (try (simp only [List.map_cons, List.map_nil] at hOff)); (try (simp only [List.nil_append, List.cons_append, List.append_nil] at NN)); (try (have kL := congrArg List.length hEq; simp only [List.length_append, List.length_cons, KStt.codes_length] at kL)))))
  k_with "state" => exact st_good (by assumption) (by assumption) (by assumption) (by assumption) (by assumption)
  k_with "state" => exact st_bad (by assumption) (by assumption) (by assumption) (by assumption) (by assumption)
  k_with "pyIter ref" => k_dflt ((rename Fr _ _ _ _ => lF'); (rename News _ _ _ _ => lN'); (refine kst_listL (σ := Str × Tok × Str × Tok) (vs := vs) (ns := ns) (nn := ep) (fun _ => (_, listOf vs.toArray ep) :: news) (fun c => [(Str.ofString "turned", .str c.1 c.2.1), (Str.ofString "text", .str c.2.2.1 c.2.2.2)]) (fun _ => True) [] (fun pre c => TInv text pre c.1 c.2.2.1 ∧ c.2.2.1.length ≤ 7 ∧ c.1.length ≤ 14 * pre.length) (Str.ofString "", _, text, t1) (by rfl) (fun _ => by k_mem) hF lF' (kst_newsOf lN' (by kst_inAny)) trivial (by kst_all) ⟨TInv_nil _, hl, Nat.le_of_eq rfl⟩ ?_ ?_); (clear lF' lN'); (all_goals (first | (rintro ⟨tu, ttu, tx, ttx⟩ pre post n t u h tk own hEq hMem hOff hFa ⟨hj1, hj2, hj3⟩ FF NN) | (rintro ⟨tu, ttu, tx, ttx⟩ u h tk hFa ⟨hj1, hj2, hj3⟩ FF NN))); (all_goals (have kMark := kstMark; (dsimp only [kstB] at *); (try (simp only [List.map_cons, List.map_nil] at hOff)); (try (simp only [List.nil_append, List.cons_append, List.append_nil] at NN)); (try (have kL := congrArg List.length hEq; simp only [List.length_append, List.length_cons] at kL)); (try (have hPos := hP.pos _ hMem)))))
  k_with "state" => exact st_trn (by assumption) (by assumption) (by assumption)
  k_with "state" => exact ⟨rfl, fun hf => by (first | (cases hf; done) | (simp only [List.length_append, List.length_cons, List.length_nil, List.length_drop, Nat.sub_sub_self hns1]; omega) | (simp only [List.length_append, List.length_cons, List.length_nil, List.length_drop]; omega))⟩
  k_with "mytry" => ((have tMark := tryMark); k_dflt ((rename Fr _ _ _ _ => lF'); refine try_cut ns vs ep news lF' (by with_unfolding_all rfl) (by with_unfolding_all rfl) ?_ ?_); (all_goals (try (intro us3 nu3 u3 h3 tk3 gs3 hbs3 hI3 F3 N3; (have hLen3 := IntsAre.length hI3); (have hTl := told_len ns); (have hP := SInv_full hi1 hne); (have hns := List.length_pos_iff.mpr hP.ne); (try dsimp only); (try k_fold)))))
  k_steps
  · have hP := SInv_full hi1 hne
    have hE := even_told (by assumption)
    k_dflt (refine call28L w mean mg mb (gives_even hP hl (by assumption)) (.inr (by intro q; exact hP.ne (List.append_eq_nil_iff.mp q).1)) (by exact rfl) (by ktr_room) (by k_asm) (by k_asm) (by k_asm) (by k_asm) (by is_list) (by assumption) hbare ?_)
    intro a C g h' tk gens' GS hbs F N hLC hnC hxC hCa hah hCh
    (try dsimp only)
    refine wpAny_pyIter_gen GS.gen ?_
    refine gloop_told (tl := news) (vs := vs) (ep := ep) GS hbs F N hLC hnC hxC hCa hah hCh T'.nolimit (.inr (by rw [List.length_append]; have := List.length_pos_iff.mpr hP.ne; omega)) (by exact rfl) (by ktr_room) (by with_unfolding_all rfl) (by with_unfolding_all rfl) (by k_mem) (by k_mem) (fun p hp => by simp only [List.mem_cons]; simp [hp]) (by k_ne) (by k_ne) (by k_all) (N _ (by k_mem)).2.1 ?_ (fun h => by cases h)
    clear F N GS hnC hbs
    intro us nu pre post y t u2 h2 tk2 gs own hbs ea hOff hI hlt FF NN
    (try dsimp only)
    have hLen2 := IntsAre.length hI
    have kL := congrArg List.length ea
    simp only [List.length_append, List.length_cons, List.length_drop] at kL
    have hns1 : 1 ≤ ns.length := List.length_pos_iff.mpr hP.ne
    rw [Nat.sub_sub_self hns1] at kL
    replace kL : ns.length = pre.length + post.length := Nat.succ.inj kL
    (try k_fold)
    k_steps
    · exact brk_post (hE.trans ea) (by rw [hE, List.length_append, List.length_drop, Nat.sub_sub_self hns1]; omega) hI hbs (by assumption) (by assumption)
  · have hP := SInv_full hi1 hne
    rcases Nat.mod_two_eq_zero_or_one ns.length with hm | hm
    · have hk2 : ((vs.length : Nat) : Int).fmod 2 = 0 := by rw [hLen, Int.fmod_eq_emod_of_nonneg _ (by decide)]; omega
      rw [hk2]
      k_dflt (refine item_made (hs := by with_unfolding_all rfl) (v := Value.ref _) (by is_list) (by decide) (by decide) (by rfl) ?_)
      (try dsimp only)
      (try k_fold)
      k_steps
      k_dflt (refine call28L w mean mg mb (gives_pair hP hl) (.inl rfl) (by exact rfl) (by ktr_room) (by k_asm) (by k_asm) (by k_asm) (by k_asm) (by is_list) (by assumption) hbare ?_)
      intro a C g h' tk gens' GS hbs F N hLC hnC hxC hCa hah hCh
      (try dsimp only)
      refine wpAny_pyIter_gen GS.gen ?_
      refine gloop_told (tl := news) (vs := vs) (ep := ep) GS hbs F N hLC hnC hxC hCa hah hCh T'.nolimit (.inl rfl) (by exact rfl) (by ktr_room) (by with_unfolding_all rfl) (by with_unfolding_all rfl) (by k_mem) (by k_mem) (fun p hp => by simp only [List.mem_cons]; simp [hp]) (by k_ne) (by k_ne) (by k_all) (N _ (by k_mem)).2.1 ?_ ?_
      rotate_left
      · clear F N GS hnC hbs
        intro _ us nu u4 h4 tk4 gs4 hbs4 hI4 F4 N4
        (try dsimp only)
        (try k_fold)
        k_steps
        exact (done_post (by assumption) hI4 hbs4 F4 N4).2
      clear F N GS hnC hbs
      intro us nu pre post y t u2 h2 tk2 gs own hbs ea hOff hI hlt FF NN
      (try dsimp only)
      have hLen2 := IntsAre.length hI
      have kL := congrArg List.length ea
      simp only [List.length_append, List.length_cons] at kL
      (try k_fold)
      k_steps
      all_goals (first | (exfalso; omega) | skip)
    · have hk2 : ((vs.length : Nat) : Int).fmod 2 = 1 := by rw [hLen, Int.fmod_eq_emod_of_nonneg _ (by decide)]; omega
      rw [hk2]
      k_dflt (refine item_made (hs := by with_unfolding_all rfl) (v := Value.ref _) (by is_list) (by decide) (by decide) (by rfl) ?_)
      (try dsimp only)
      (try k_fold)
      k_steps
      k_dflt (refine call28L w mean mg mb (gives_odd' hP hl) (.inl rfl) (by exact rfl) (by ktr_room) (by k_asm) (by k_asm) (by k_asm) (by k_asm) (by is_list) (by assumption) hbare ?_)
      intro a C g h' tk gens' GS hbs F N hLC hnC hxC hCa hah hCh
      (try dsimp only)
      refine wpAny_pyIter_gen GS.gen ?_
      refine gloop_told (tl := news) (vs := vs) (ep := ep) GS hbs F N hLC hnC hxC hCa hah hCh T'.nolimit (.inl rfl) (by exact rfl) (by ktr_room) (by with_unfolding_all rfl) (by with_unfolding_all rfl) (by k_mem) (by k_mem) (fun p hp => by simp only [List.mem_cons]; simp [hp]) (by k_ne) (by k_ne) (by k_all) (N _ (by k_mem)).2.1 ?_ ?_
      rotate_left
      · clear F N GS hnC hbs
        intro _ us nu u4 h4 tk4 gs4 hbs4 hI4 F4 N4
        (try dsimp only)
        (try k_fold)
        k_steps
        exact (done_post (by assumption) hI4 hbs4 F4 N4).2
      clear F N GS hnC hbs
      intro us nu pre post y t u2 h2 tk2 gs own hbs ea hOff hI hlt FF NN
      (try dsimp only)
      have hLen2 := IntsAre.length hI
      have kL := congrArg List.length ea
      simp only [List.length_append, List.length_cons] at kL
      (try k_fold)
      k_steps
      all_goals (first | (exfalso; omega) | skip)
  · rw [turn_is hi1 hj1]
    exact hret _ _ _ _ hbs3 (by first | assumption | k_asm) (by first | assumption | k_asm | exact cb_drop (by assumption) (by kcj_all))
end Mine
end
section
open PySem PySem.W PyProof.Rows PySem.Builtin PySem.Builtin.Str
namespace Mine
noncomputable def cutL (p : Nat → Bool) : List Nat → List Nat → List Nat
  | _, [] => []
  | acc, x :: r => if p x then x :: (acc ++ cutL p [] r) else cutL p (acc ++ [x]) r
noncomputable def turnP (t : List Nat) (c : Nat) (x : Nat) : Bool := decide (x ≤ c) == decide (t.getLast?.getD 0 ≤ c)
noncomputable def turnL (t : List Nat) (c : Nat) : List Nat := cutL (turnP t c) [] t
noncomputable def szL (p : Nat → Bool) : Nat → List Nat → List Int
  | _, [] => []
  | k, x :: r => if p x then ((k : Int) + 1) :: szL p 0 r else szL p (k + 1) r
theorem lt_one (a c : Nat) : ([a] < [c]) ↔ a < c := by
  constructor
  · intro h
    cases h with
    | rel h => exact h
    | cons h => cases h
  · intro h
    exact List.Lex.rel h
theorem strcoll_one (a c : Nat) : strcoll ⟨#[a]⟩ ⟨#[c]⟩ = b2i (decide (c < a)) - b2i (decide (a < c)) := by
  unfold strcoll
  show b2i (decide ([c] < [a])) - b2i (decide ([a] < [c])) = _
  simp only [lt_one]
theorem strcoll_le (a c : Nat) : decide (strcoll ⟨#[a]⟩ ⟨#[c]⟩ ≤ 0) = decide (a ≤ c) := by
  rw [strcoll_one]
  by_cases h : a ≤ c
  · have h1 : ¬ c < a := by omega
    by_cases h2 : a < c <;> simp [h, h1, h2, b2i]
  · have h1 : c < a := by omega
    have h2 : ¬ a < c := by omega
    simp [h, h1, h2, b2i]
theorem good_eq {text : Str} {c : Nat} (hne : cl text ≠ []) (n : Nat) : good text ⟨#[c]⟩ (n : Int) = turnP (cl text) c n := by
  obtain ⟨l, z, hlz⟩ : ∃ l z, cl text = l ++ [z] := ⟨(cl text).dropLast, (cl text).getLast hne, (List.dropLast_concat_getLast hne).symm⟩
  unfold good turnP
  rw [Int.toNat_natCast, item_last hlz, strcoll_le, strcoll_le, hlz]
  simp
theorem szp_fold (text sign : Str) (p : Nat → Bool) (hp : ∀ n : Nat, good text sign (n : Int) = p n) : ∀ (l : List Nat) (a : List Int) (k : Nat),
    ((l.map fun (c : Nat) => (c : Int)).foldl (fun a n => if good text sign n then (a.1 ++ [a.2 + 1], 0) else (a.1, a.2 + 1)) (a, (k : Int))).1 = a ++ szL p k l
  | [], a, k => by simp [szL]
  | x :: r, a, k => by
    rw [List.map_cons, List.foldl_cons, hp]
    unfold szL
    by_cases h : p x = true
    · rw [if_pos h, if_pos h]
      have := szp_fold text sign p hp r (a ++ [(k : Int) + 1]) 0
      rw [List.append_assoc] at this
      exact this
    · rw [if_neg h, if_neg h]
      exact szp_fold text sign p hp r a (k + 1)
theorem trn_fold (p : Nat → Bool) : ∀ (l acc : List Nat) (tu tx : Str), cl tx = acc ++ l →
    cl ((szL p acc.length l).foldl (fun (c : Str × Str) n => (c.1 ++ (Txt.slice c.2 (some (n - 1)) (some n) ++ Txt.slice c.2 none (some (n - 1))), Txt.slice c.2 (some n) none)) (tu, tx)).1 = cl tu ++ cutL p acc l
  | [], acc, tu, tx, _ => by simp [szL, cutL]
  | x :: r, acc, tu, tx, h => by
    unfold szL cutL
    by_cases hx : p x = true
    · rw [if_pos hx, if_pos hx, List.foldl_cons]
      have e1 : (acc.length : Int) + 1 - 1 = ((acc.length : Nat) : Int) := by omega
      have e2 : (acc.length : Int) + 1 = ((acc.length + 1 : Nat) : Int) := by omega
      have hl : tx.length = acc.length + (r.length + 1) := by rw [← cl_len, h]; simp
      have ih := trn_fold p r [] (tu ++ (Txt.slice tx (some ((acc.length : Int) + 1 - 1)) (some ((acc.length : Int) + 1)) ++ Txt.slice tx none (some ((acc.length : Int) + 1 - 1)))) (Txt.slice tx (some ((acc.length : Int) + 1)) none)
        (by rw [e2, cl_from, h]; simp)
      refine Eq.trans ih ?_
      rw [cl_app, cl_app, e1, e2, cl_mid _ _ _ (by omega), cl_to, h]
      have e3 : acc.length + 1 - acc.length = 1 := by omega
      simp [e3, List.append_assoc]
    · rw [if_neg hx, if_neg hx]
      have ih := trn_fold p r (acc ++ [x]) tu tx (by rw [h]; simp)
      rw [List.length_append] at ih
      exact ih
theorem cl_turnS (text : Str) (c : Nat) : cl (turnS text ⟨#[c]⟩) = turnL (cl text) c := by
  by_cases hne : cl text = []
  · have : text = Str.empty := cl_inj hne
    subst this
    unfold turnS
    rw [show KStt.codes Str.empty = [] from rfl, szp_nil, trn_nil]
    rfl
  · unfold turnS szp trn turnL
    have e := szp_fold text ⟨#[c]⟩ (turnP (cl text) c) (good_eq hne) (cl text) [] 0
    rw [List.nil_append] at e
    have e' : (List.foldl (fun a n => if good text { cps := #[c] } n = true then (a.1 ++ [a.2 + 1], 0) else (a.1, a.2 + 1)) ([], 0) (KStt.codes text)).1 = szL (turnP (cl text) c) 0 (cl text) := e
    rw [e']
    have := trn_fold (turnP (cl text) c) (cl text) [] Str.empty text rfl
    exact this
theorem cutL_full (p : Nat → Bool) : ∀ (l acc : List Nat) (z : Nat), p z = true → (cutL p acc (l ++ [z])).length = acc.length + l.length + 1
  | [], acc, z, h => by
    show (cutL p acc [z]).length = _
    unfold cutL
    rw [if_pos h]
    simp [cutL]
  | x :: r, acc, z, hz => by
    show (cutL p acc (x :: (r ++ [z]))).length = _
    unfold cutL
    by_cases h : p x = true
    · rw [if_pos h]
      have := cutL_full p r [] z hz
      simp only [List.length_cons, List.length_append, List.length_nil] at *
      omega
    · rw [if_neg h]
      have := cutL_full p r (acc ++ [x]) z hz
      simp only [List.length_cons, List.length_append, List.length_nil] at *
      omega
theorem turnL_len (t : List Nat) (c : Nat) : (turnL t c).length = t.length := by
  rcases List.eq_nil_or_concat t with rfl | ⟨l, z, rfl⟩
  · rfl
  · rw [List.concat_eq_append]
    unfold turnL
    rw [cutL_full]
    · simp
    · unfold turnP; simp
theorem turnS_len' (text : Str) (c : Nat) : (turnS text ⟨#[c]⟩).length = text.length := by
  rw [← cl_len, cl_turnS, ← cl_len, turnL_len]
/-- the way there, on lists -/
noncomputable def thL (w : List Nat) : List Nat := w.foldl (fun d n => turnL d n ++ [n]) []
noncomputable def bkL (w : List Nat) : Nat → List Nat × List Nat
  | 0 => ([], w)
  | i + 1 => let p := bkL w i; (p.2.drop (p.2.length - 1) ++ p.1, (turnL (p.2.take (p.2.length - 1)).reverse (p.2.getLast?.getD 0)).reverse)
abbrev rv (x : Str) (u : Tok) : Str := Txt.sliceBy x none none (-1, u)
theorem rv_len (x : Str) (u : Tok) : (rv x u).length = x.length := by rw [← cl_len, cl_rev, List.length_reverse, cl_len]
noncomputable def BK (word : Str) (i : Nat) (d w : Str) : Prop := bkL (cl word) i = (cl d, cl w) ∧ d.length = i ∧ w.length + i = 7
theorem BK_nil {word : Str} (h : word.length = 7) : BK word 0 (Str.ofString "") word := ⟨rfl, rfl, h⟩
theorem last_one {w : Str} (h : 1 ≤ w.length) : ∃ c, Txt.slice w (some (-1)) none = ⟨#[c]⟩ ∧ (cl w).getLast? = some c := by
  have hne : cl w ≠ [] := fun q => by have := cl_len w; rw [q] at this; simp at this; omega
  obtain ⟨l, z, hlz⟩ : ∃ l z, cl w = l ++ [z] := ⟨(cl w).dropLast, (cl w).getLast hne, (List.dropLast_concat_getLast hne).symm⟩
  refine ⟨z, cl_inj ?_, by rw [hlz]; simp⟩
  have hl : w.length = l.length + 1 := by rw [← cl_len, hlz]; simp
  rw [cl_last, hl, hlz]
  simp
theorem BK_step {word : Str} {i : Nat} {d w : Str} {u u' : Tok} (hi : i < 7) (h : BK word i d w) :
    BK word (i + 1) (Txt.slice w (some (-1)) none ++ d) (rv (turnS (rv (Txt.slice w none (some (-1))) u) (Txt.slice w (some (-1)) none)) u') := by
  obtain ⟨h1, h2, h3⟩ := h
  obtain ⟨c, hc, hg⟩ := last_one (w := w) (by omega)
  refine ⟨?_, ?_, ?_⟩
  · show ((bkL (cl word) i).2.drop ((bkL (cl word) i).2.length - 1) ++ (bkL (cl word) i).1, (turnL ((bkL (cl word) i).2.take ((bkL (cl word) i).2.length - 1)).reverse ((bkL (cl word) i).2.getLast?.getD 0)).reverse) = _
    rw [h1]
    show ((cl w).drop ((cl w).length - 1) ++ cl d, (turnL ((cl w).take ((cl w).length - 1)).reverse ((cl w).getLast?.getD 0)).reverse) = _
    rw [cl_app, cl_last, hc, cl_rev, cl_turnS, cl_rev, cl_init, hg, cl_len]
    rfl
  · rw [Str.length_append, hc, h2]
    show 1 + i = i + 1
    omega
  · have e : (Txt.slice w none (some (-1))).length = w.length - 1 := by
      rw [← cl_len, cl_init, List.length_take, cl_len]; omega
    rw [rv_len, hc, turnS_len', rv_len, e]
    rw [Nat.add_comm i 1, ← Nat.add_assoc, Nat.sub_add_cancel (show 1 ≤ w.length by omega)]
    exact h3
theorem BK_lens {word : Str} {i : Nat} {d w : Str} (h : BK word i d w) : d.length ≤ 7 ∧ w.length ≤ 7 := by
  obtain ⟨_, h2, h3⟩ := h; omega
theorem sz7 {n : Nat} (h : n ≤ 7) : n ≤ PySem.sizeLine := by rw [PySem.sizeLine_eq]; omega
theorem szS {x : Str} {l u : Option Int} (h : x.length ≤ 7) : (Txt.slice x l u).length ≤ 7 := Nat.le_trans (Txt.slice_le x l u) h
theorem szR {x : Str} {u : Tok} (h : x.length ≤ 7) : (rv x u).length ≤ 7 := by rw [rv_len]; exact h
end Mine
end
section
open PySem PySem.W PyProof.Rows
set_option maxHeartbeats 8000000
set_option pp.deepTerms false
set_option pp.maxSteps 3000
namespace Mine
/-- the four signs -/
noncomputable def Lt (a : Nat) : Prop := a = 65 ∨ a = 66 ∨ a = 97 ∨ a = 98
noncomputable def loC (a : Nat) : Nat := if a = 65 then 97 else if a = 66 then 98 else a
@[irreducible] noncomputable def subC (a b : Nat) : Int := if a = b then 0 else if loC a = loC b then 1 else 2
theorem low_one {a : Nat} (h : Lt a) : Txt.lower ⟨#[a]⟩ = ⟨#[loC a]⟩ := by
  rcases h with rfl | rfl | rfl | rfl <;> decide +kernel
theorem one_beq (a b : Nat) : ((⟨#[a]⟩ : Str) == ⟨#[b]⟩) = decide (a = b) := by
  by_cases h : a = b
  · subst h; simp
  · have : (⟨#[a]⟩ : Str) ≠ ⟨#[b]⟩ := fun q => h (by have := congrArg (fun x => x.cps.toList) q; simpa using this)
    simp [h, this]
theorem e0 {a b : Nat} (h : ((⟨#[a]⟩ : Str) == ⟨#[b]⟩) = true) : (0 : Int) = subC a b := by
  rw [one_beq] at h
  unfold subC
  rw [if_pos (of_decide_eq_true h)]
theorem low_beq {a b : Nat} (ha : Lt a) (hb : Lt b) : (Txt.lower ⟨#[a]⟩ == Txt.lower ⟨#[b]⟩) = decide (loC a = loC b) := by
  rw [low_one ha, low_one hb, one_beq]
theorem e1 {a b : Nat} (ha : Lt a) (hb : Lt b) (h : ((⟨#[a]⟩ : Str) == ⟨#[b]⟩) = false) (h2 : (Txt.lower ⟨#[a]⟩ == Txt.lower ⟨#[b]⟩) = true) : (1 : Int) = subC a b := by
  rw [one_beq] at h; rw [low_beq ha hb] at h2
  unfold subC
  rw [if_neg (of_decide_eq_false h), if_pos (of_decide_eq_true h2)]
theorem e2 {a b : Nat} (ha : Lt a) (hb : Lt b) (h : ((⟨#[a]⟩ : Str) == ⟨#[b]⟩) = false) (h2 : (Txt.lower ⟨#[a]⟩ == Txt.lower ⟨#[b]⟩) = false) : (2 : Int) = subC a b := by
  rw [one_beq] at h; rw [low_beq ha hb] at h2
  unfold subC
  rw [if_neg (of_decide_eq_false h), if_neg (of_decide_eq_false h2)]
theorem c43 (w : World) (mean : ExcName → Option Value) (mg mb : Str → Option Value) (a b : Nat) (ta tb : Tok) (ha : Lt a) (hb : Lt b) :
  CL w mean mg mb 43 1 8 [.str ⟨#[a]⟩ ta, .str ⟨#[b]⟩ tb] (fun t => .int (subC a b) t) := by
  dsimp only [CL]; w_top off; k_with_none; k_fill
  k_with "call builtin:str.lower" => (k_here; (refine SCL.lower (by show (1 : Nat) ≤ 5592405; decide) ?_); intro _)
  intro news dp un gd cn cs a0 ccd cl outer A₀ base h₀ L m s Q E hB hF0 hX hN hT hk hd hu hret
  replace hret := fun (v : Int) (e : v = subC a b) => e.symm ▸ hret
  refine wpAny_call ?_
  k_dflt cell_enter
  k_steps
  · exact hret 0 (e0 (by assumption)) _ _ _ (by assumption) (by assumption)
  · exact hret 1 (e1 ha hb (by assumption) (by assumption)) _ _ _ (by assumption) (by assumption)
  · exact hret 2 (e2 ha hb (by assumption) (by assumption)) _ _ _ (by assumption) (by assumption)
end Mine
end
section
open PySem PySem.W PyProof.Rows
set_option maxHeartbeats 8000000
set_option pp.deepTerms false
set_option pp.maxSteps 3000
namespace Mine
open PyProof.Rows.LCg
noncomputable def ixC (c : Nat) : Int := if c = 65 then 0 else if c = 66 then 1 else if c = 97 then 2 else 3
theorem index_sign {prog : Program} {w : World} {A : Around} {E : Value → Shared → Prop} {s : Shared} {c : Nat} {t u : Tok} {Q : Value → Shared → Prop} (hA : A.handled = none) (hc : Lt c) (h : Q (.int (ixC c) s.toks) { s with toks := s.toks + 1 }) :
    wpAny (model prog w) A (call (.builtin "str.index") [.str (Str.ofString "ABab") t, .str ⟨#[c]⟩ u]) Q E s := by
  have e : Txt.find (Str.ofString "ABab") ⟨#[c]⟩ = ixC c := by rcases hc with rfl | rfl | rfl | rfl <;> decide +kernel
  refine index_or hA (fun h0 _ => ?_) (fun _ _ => by rw [e]; exact h)
  rw [e] at h0
  exfalso
  rcases hc with rfl | rfl | rfl | rfl <;> simp [ixC] at h0
@[irreducible] noncomputable def figT (l : List Nat) (i : Nat) : List Int := (List.range i).map fun k => (1 + ixC (l.getD k 0)) * 5 ^ (6 - k)
theorem figT_nil (l : List Nat) : figT l 0 = [] := by unfold figT; rfl
theorem figT_snoc {l : List Nat} {i c : Nat} (h : l[i]? = some c) : figT l (i + 1) = figT l i ++ [(1 + ixC c) * 5 ^ (6 - i)] := by
  unfold figT
  rw [List.range_succ, List.map_append]
  simp [List.getD, h]
theorem figT_len (l : List Nat) (i : Nat) : (figT l i).length = i := by unfold figT; simp
noncomputable def Signs (x : Str) : Prop := ∀ c ∈ cl x, Lt c
theorem mulok {c : Nat} (h : Lt c) : Builtin.Int.intBits (1 + ixC c) ≤ 64 := by rcases h with rfl | rfl | rfl | rfl <;> decide +kernel
theorem c83 (w : World) (mean : ExcName → Option Value) (mg mb : Str → Option Value) (text : Str) (ta : Tok) (h7 : text.length ≤ 7) (hS : Signs text) :
  CL w mean mg mb 83 1 8 [.str text ta] (fun t => .int (figT (cl text) text.length).sum t) := by
  dsimp only [CL]; w_top off; k_with_none; k_fill
  k_with "eval ListComp" => (k_here; k_dflt (refine ListComp_J (hs := by intro _; rfl) (_F₀ := by k_asm) (by with_unfolding_all rfl) (by decide) (by rfl) (by decide) ?_); k_whole)
  k_with "call type:enumerate" => (k_here; k_extra "enum")
  k_with "call builtin:str.index" => (k_here; (refine index_sign (by rfl) (by assumption) ?_); k_whole)
  k_with "binaryOp Mult int int" => (k_here; (refine mul_int ?_ (IntMulOk.of_left (mulok (by assumption)))); k_whole)
  intro news dp un gd cn cs a0 ccd cl0 outer A₀ base h₀ L m s Q E hB hF0 hX hN hT hk hd hu hret
  refine wpAny_call ?_
  k_dflt (refine' code_def (binds := [(Str.ofString "text", .str text ta)]) ?k1 ?k2 ?k3 ?k4 ?k5 ?kA ?kF ?kK ?k6 ?k7 ?k8 ?k9 ?kB ?_ ?c2 ?c3 ?c4 ?c5; (case kA => exact rfl); (case kF => exact rfl); (case kK => assumption); (case k1 => k_asm); (case k2 => k_asm); (case k3 => k_asm); (case k4 => k_asm); (case k5 => k_asm); (case k6 => k_is); (case k7 => k_is); (case k8 => ktr_room); (case k9 => exact BindsTo.of_eq rfl); (case c5 => decide); (case kB => exact locs rfl); (case c2 => exact rfl); (case c3 => exact rfl); (case c4 => exact rfl); k_whole; intro g' L' h' FG' F' N' B' X' T'; (try dsimp only [List.reverse_cons, List.reverse_nil, List.nil_append, List.cons_append] at F'); (try dsimp only); (try k_lift B'); (try k_fold))
  k_with "enum" => k_dflt ((rename Fr _ _ _ _ => lF'); (rename News _ _ _ _ => lN'); (refine comp_enum (by rfl) lF' lN' (by rfl) (by rfl) (by decide) (by rfl) (fun i ys => IntsAre ys (figT (cl text) i)) (by rw [figT_nil]; exact .nil) (fun i ys hi hys => ?gl) ?gt ?gd); (case gl => rw [hys.length, figT_len, PySem.sizeLine_eq]; omega))
  k_steps
  · unfold JTurn
    rintro C D i ys m₂ oC hh tkk own E' hi hJ ⟨c, t, u, hc, hk, hx⟩ hoC FF NN
    have hLc : Lt c := hS c (List.mem_of_getElem? hc)
    refine wpAny_tests_nil ?_
    simp only [if_true]
    k_steps
    refine ⟨hh, _, oC, m₂, rfl, FF, NN, hoC, trivial, ?_⟩
    show IntsAre _ (figT (cl text) (i + 1))
    have e6 : (6 - (i : Int)).toNat = 6 - i := Int.toNat_sub 6 i
    rw [figT_snoc hc, ← e6]
    exact hJ.append (.cons _ _ .nil)
  · unfold FinEJ
    intro hh tkk FF NN hlt
    (try dsimp only)
    (try k_fold)
    k_steps
    cb_end hret
end Mine
end
section
open PySem PySem.W PyProof.Rows PyProof.Rows.LCg
set_option maxHeartbeats 8000000
set_option pp.deepTerms false
set_option pp.maxSteps 3000
namespace Mine

noncomputable def pmin (a b : Int) : Int := if b < a then b else a
@[irreducible] noncomputable def leastT (p q : Nat) (l : List Nat) : Int × Int := l.foldl (fun a c => (pmin a.1 (subC c p), pmin a.2 (a.1 + subC c q))) (4, 4)
theorem leastT_nil (p q : Nat) : leastT p q [] = (4, 4) := by unfold leastT; rfl
theorem leastT_snoc (p q : Nat) (l : List Nat) (c : Nat) : leastT p q (l ++ [c]) = (pmin (leastT p q l).1 (subC c p), pmin (leastT p q l).2 ((leastT p q l).1 + subC c q)) := by unfold leastT; rw [List.foldl_append]; rfl
/-- the frame between the turns -/
noncomputable def M93 (a b : Int) (ta tb : Tok) (u : Option Value) (word pair : Value) : Str → Option Value := fun y => if y = Str.ofString "prices" then u else if y = Str.ofString "least" then some (.int b tb) else if y = Str.ofString "ahead" then some (.int a ta) else if y = Str.ofString "pair" then some pair else if y = Str.ofString "word" then some word else none
theorem snocI {ys : List Value} {l : List Int} {v r : Int} {t : Tok} (h : IntsAre ys l) (e : v = r) : IntsAre (ys ++ [.int v t]) (l ++ [r]) := by subst e; exact h.append (.cons _ _ .nil)
theorem ints2 {ys : List Value} {a b : Int} (h : IntsAre ys [a, b]) : ∃ t1 t2, ys = [.int a t1, .int b t2] := by
  cases h with
  | cons _ t1 h => cases h with
    | cons _ t2 h => cases h with
      | nil => exact ⟨t1, t2, rfl⟩
theorem M93_mk {m : Str → Option Value} {a b : Int} {ta tb : Tok} {word pair : Value} (h1 : m (Str.ofString "least") = some (.int b tb)) (h2 : m (Str.ofString "ahead") = some (.int a ta)) (h3 : m (Str.ofString "pair") = some pair) (h4 : m (Str.ofString "word") = some word)
    (h5 : ∀ y, y ≠ Str.ofString "prices" → y ≠ Str.ofString "least" → y ≠ Str.ofString "ahead" → y ≠ Str.ofString "pair" → y ≠ Str.ofString "word" → m y = none) : m = M93 a b ta tb (m (Str.ofString "prices")) word pair := by
  funext y
  unfold M93
  by_cases q1 : y = Str.ofString "prices"
  · rw [if_pos q1, q1]
  by_cases q2 : y = Str.ofString "least"
  · rw [if_neg q1, if_pos q2, q2, h1]
  by_cases q3 : y = Str.ofString "ahead"
  · rw [if_neg q1, if_neg q2, if_pos q3, q3, h2]
  by_cases q4 : y = Str.ofString "pair"
  · rw [if_neg q1, if_neg q2, if_neg q3, if_pos q4, q4, h3]
  by_cases q5 : y = Str.ofString "word"
  · rw [if_neg q1, if_neg q2, if_neg q3, if_neg q4, if_pos q5, q5, h4]
  · rw [if_neg q1, if_neg q2, if_neg q3, if_neg q4, if_neg q5, h5 y q1 q2 q3 q4 q5]
theorem M93_ex {m : Str → Option Value} {a b : Int} {ta tb : Tok} {word pair : Value} (h1 : m (Str.ofString "least") = some (.int b tb)) (h2 : m (Str.ofString "ahead") = some (.int a ta)) (h3 : m (Str.ofString "pair") = some pair) (h4 : m (Str.ofString "word") = some word)
    (h5 : ∀ y, y ≠ Str.ofString "prices" → y ≠ Str.ofString "least" → y ≠ Str.ofString "ahead" → y ≠ Str.ofString "pair" → y ≠ Str.ofString "word" → m y = none) : ∃ (u : Option Value) (tA tB : Tok), m = M93 a b tA tB u word pair := ⟨_, _, _, M93_mk h1 h2 h3 h4 h5⟩
theorem c93 (w : World) (mean : ExcName → Option Value) (mg mb : Str → Option Value) (word : Str) (p q : Nat) (ta tb : Tok) (hS : Signs word) (hp : Lt p) (hq : Lt q) :
  CL w mean mg mb 93 1 8 [.str word ta, .str ⟨#[p, q]⟩ tb] (fun t => .int (10 + (leastT p q (cl word)).2) t) := by
  dsimp only [CL]; w_top off; k_with_none; k_fill
  k_with "eval ListComp" => (k_here; k_dflt (refine ListComp_J (hs := by intro _; rfl) (_F₀ := by k_asm) (by with_unfolding_all rfl) (by decide) (by rfl) (by decide) ?_); k_whole)
  k_with "exec Assign cons ListComp" => (k_here; k_dflt (refine Assign_ListComp_J (hs := by intro _; rfl) (_F₀ := by k_asm) (by rfl) (by with_unfolding_all rfl) (by with_unfolding_all rfl) (by decide) (by rfl) (by decide) (by rfl) (by rfl) ?_); k_whole)
  k_with "exec For Name Name cons nil" => (k_here; (rename Fr _ _ _ _ => lFqw2); (with_unfolding_all refine' For_J (hs := by intro _; rfl) (hE := by passes_own) lFqw2 ?_); k_whole)
  k_with "pyIter str" => (k_here; k_extra "iterstr")
  k_with "call builtin:str.lower" => (k_here; (refine SCL.lower (by show (1 : Nat) ≤ 5592405; decide) ?_); intro _)
  intro news dp un gd cn cs a0 ccd cl0 outer A₀ base h₀ L m s Q E hB hF0 hX hN hT hk hd hu hret
  refine wpAny_call ?_
  k_dflt (refine' code_defC (binds := [(Str.ofString "word", .str word ta), (Str.ofString "pair", .str ⟨#[p, q]⟩ tb)]) ?k1 ?k2 ?k3 ?k4 ?k5 ?kA ?kF ?kK ?k6 ?k7 ?k8 ?k9 ?kB ?kD ?_ ?c2 ?c3 ?c4; (case kA => exact rfl); (case kF => exact rfl); (case kK => assumption); (case k1 => k_asm); (case k2 => k_asm); (case k3 => k_asm); (case k4 => k_asm); (case k5 => k_asm); (case k6 => k_is); (case k7 => k_is); (case k8 => ktr_room); (case k9 => exact BindsTo.of_eq rfl); (case kB => exact rfl); (case kD => decide +kernel); (case c2 => exact rfl); (case c3 => exact rfl); (case c4 => exact rfl); k_whole; intro g' L' h' tk' cells' FG' F' N' Y' B' X' T' l1; (try k_lt l1))
  obtain ⟨o0, rfl, ho0⟩ := CellsAre.one Y'
  clear Y'
  replace F' : Fr g' L' h' (fun y => if y = Str.ofString "pair" then some (.str ⟨#[p, q]⟩ tb) else if y = Str.ofString "word" then some (.str word ta) else none) := by with_unfolding_all exact F'
  replace ho0 : o0.data = .cell none := by with_unfolding_all exact ho0
  (try simp only [List.cons_append, List.nil_append] at N')
  (try dsimp only)
  (try k_lift B')
  (try k_fold)
  k_steps
  rename Fr _ _ _ _ => lF'
  rename News _ _ _ _ => lN'
  refine for_str_cell (by rfl) lF' lN' ho0 (by rfl) (by rfl) (by rfl) (fun p hp => Nat.ne_of_lt (Nat.lt_succ_of_lt (l1 p hp))) (fun i m l => l = news ∧ ∃ (u : Option Value) (tA tB : Tok), m = M93 (leastT p q ((cl word).take i)).1 (leastT p q ((cl word).take i)).2 tA tB u (.str word ta) (.str ⟨#[p, q]⟩ tb)) ?hJ (fun i m l h => by rw [h.1]) ?turn ?done
  case hJ =>
    refine ⟨rfl, ?_⟩
    rw [List.take_zero, leastT_nil]
    exact M93_ex (by with_unfolding_all rfl) (by with_unfolding_all rfl) (by with_unfolding_all rfl) (by with_unfolding_all rfl) (fun y h1 h2 h3 h4 h5 => by rw [if_neg h2, if_neg h3, if_neg h4, if_neg h5])
  case done =>
    rintro hh tkk m l o ⟨rfl, u, tA, tB, rfl⟩ FF NN
    rw [← cl_len, List.take_length] at FF
    clear lF' lN'
    unfold M93 at FF
    (try dsimp only)
    (try k_fold)
    k_steps
    cb_end hret
  case turn =>
    rintro i ch tc m l o hh tkk own hown hch ⟨rfl, u, tA, tB, rfl⟩ ho FF NN
    have hLc : Lt ch := hS ch (List.mem_of_getElem? hch)
    have hi : i < (cl word).length := (List.getElem?_eq_some_iff.mp hch).1
    have hsn : (cl word).take (i + 1) = (cl word).take i ++ [ch] := by rw [List.take_add_one, hch]; rfl
    unfold M93 at FF
    clear lF' lN'
    (try simp only [List.cons_append] at NN)
    (try dsimp only)
    change Fr g' L' hh _ at FF
    change News g' L' hh _ at NN
    (try k_fold)
    k_steps
    rename Fr _ _ _ _ => lF'
    rename News _ _ _ _ => lN'
    refine comp_str (by rfl) lF' lN' (by rfl) (by rfl) (fun i ys => IntsAre ys (([p, q].take i).map (subC ch))) .nil (fun i ys hi hy => ?len) ?cturn ?cdone
    case len => rw [hy.length, PySem.sizeLine_eq]; simp; omega
    case cturn =>
      unfold JTurn
      rintro C D i2 ys m₂ oC h2 tk2 own2 E2 hi2 hJ2 ⟨c2, t2, hc2, hx2⟩ hoC FF2 NN2
      have hL2 : Lt c2 := by
        have : c2 ∈ [p, q] := List.mem_of_getElem? hc2
        rcases List.mem_cons.mp this with rfl | h
        · exact hp
        · rw [List.mem_singleton.mp h]; exact hq
      have hs2 : [p, q].take (i2 + 1) = [p, q].take i2 ++ [c2] := by rw [List.take_add_one, show [p, q][i2]? = some c2 from hc2]; rfl
      refine wpAny_tests_nil ?_
      simp only [if_true]
      (try simp only [List.cons_append] at NN2)
      k_steps
      · refine ⟨_, _, oC, m₂, rfl, FF2, NN2, hoC, trivial, ?_⟩
        show IntsAre _ (List.map (subC ch) (List.take (i2 + 1) [p, q]))
        rw [hs2, List.map_append]
        exact snocI hJ2 (e0 (by assumption))
      · refine ⟨_, _, oC, m₂, rfl, FF2, NN2, hoC, trivial, ?_⟩
        show IntsAre _ (List.map (subC ch) (List.take (i2 + 1) [p, q]))
        rw [hs2, List.map_append]
        exact snocI hJ2 (e1 hLc hL2 (by assumption) (by assumption))
      · refine ⟨_, _, oC, m₂, rfl, FF2, NN2, hoC, trivial, ?_⟩
        show IntsAre _ (List.map (subC ch) (List.take (i2 + 1) [p, q]))
        rw [hs2, List.map_append]
        exact snocI hJ2 (e2 hLc hL2 (by assumption) (by assumption))
    case cdone =>
      intro g D ys hy hlt
      have hy' : IntsAre ys [subC ch p, subC ch q] := hy
      obtain ⟨t1, t2, rfl⟩ := ints2 hy'
      unfold FinAJ
      intro h2 tk2 FF2 NN2 hlt2
      (try dsimp only)
      (try k_fold)
      k_steps
      rename Fr _ _ _ _ => fF
      rename News _ _ _ _ => fN
      refine ⟨_, _, _, (L' + 1, o) :: l, rfl, fF, fun p hp => fN p (List.mem_cons_of_mem _ hp), o, _, l, rfl, ho, rfl, ?_⟩
      rw [hsn, leastT_snoc]
      exact M93_ex (by with_unfolding_all rfl) (by with_unfolding_all rfl) (by with_unfolding_all rfl) (by with_unfolding_all rfl) (fun y h1 h2 h3 h4 h5 => by simp only [if_neg h1, if_neg h2, if_neg h3, if_neg h4, if_neg h5])
end Mine
end
section
open PySem PySem.W PyProof.Rows PySem.Calls PySem.Spec PyProof.V PyProof.Rows.LCg
set_option maxHeartbeats 2000000
namespace Mine
noncomputable def lcpL : List Nat → List Nat → Nat
  | x :: a, y :: b => if x = y then lcpL a b + 1 else 0
  | _, _ => 0
theorem lcp_exit : ∀ (k : Nat) (a b : List Nat), a.take k = b.take k → k ≤ a.length → k ≤ b.length → (a[k]? = none ∨ b[k]? = none ∨ a[k]? ≠ b[k]?) → lcpL a b = k
  | 0, a, b, _, _, _, h => by
    cases a with
    | nil => cases b <;> rfl
    | cons x a => cases b with
      | nil => rfl
      | cons y b =>
        have : x ≠ y := by
          rcases h with h | h | h
          · cases h
          · cases h
          · exact fun q => h (by rw [q]; rfl)
        unfold lcpL
        rw [if_neg this]
  | k + 1, [], b, _, h, _, _ => by simp at h
  | k + 1, x :: a, [], _, _, h, _ => by simp at h
  | k + 1, x :: a, y :: b, ht, h1, h2, h => by
    rw [List.take_succ_cons, List.take_succ_cons] at ht
    obtain ⟨hx, ht⟩ := List.cons.inj ht
    unfold lcpL
    rw [if_pos hx, lcp_exit k a b ht (by simpa using h1) (by simpa using h2) (by simpa using h)]
theorem lcp_le : ∀ (a b : List Nat), lcpL a b ≤ a.length ∧ lcpL a b ≤ b.length
  | [], _ => by simp [lcpL]
  | _ :: _, [] => by simp [lcpL]
  | x :: a, y :: b => by
    unfold lcpL
    have := lcp_le a b
    split <;> simp <;> omega
/-- x[:i or None] -/
noncomputable def pcut (x : Str) (i : Int) : Str := if i = 0 then Txt.slice x none none else Txt.slice x none (some i)
theorem cl_pcut (x : Str) (m : Nat) : cl (pcut x (-(m : Int))) = (cl x).take (x.length - m) := by
  unfold pcut
  by_cases h : m = 0
  · subst h
    rw [if_pos (by rfl), cl_slice]
    show List.take ((x.length : Int).toNat - 0) (List.drop 0 _) = _
    rw [Int.toNat_natCast, List.drop_zero]
  · rw [if_neg (by omega), cl_slice, clip_negm _ _ _ (Nat.pos_of_ne_zero h), Int.toNat_natCast]
    rfl
theorem pcut_len (x : Str) (m : Nat) : (pcut x (-(m : Int))).length = x.length - m := by
  rw [← cl_len, cl_pcut, List.length_take, cl_len, Nat.min_eq_left (Nat.sub_le ..)]
theorem from_len (x : Str) (k : Nat) : (Txt.slice x (some (k : Int)) none).length = x.length - k := by
  rw [← cl_len, cl_from, List.length_drop, cl_len]
theorem item_nat {x : Str} {k c : Nat} (h : (cl x)[k]? = some c) : Txt.item x (k : Int) = ⟨#[c]⟩ := by
  have hk : k < x.length := by rw [← cl_len]; exact (List.getElem?_eq_some_iff.mp h).1
  unfold Txt.item Txt.charAt seqIndex?
  have e1 : ¬ ((k : Int) < 0) := by omega
  simp only [e1, if_false]
  have e3 : (decide (0 ≤ (k : Int)) && decide ((k : Int) < (x.length : Int))) = true := by
    simp only [Bool.and_eq_true, decide_eq_true_eq]; omega
  rw [if_pos e3]
  have e4 : x.cps[k]? = some c := by rw [← Array.getElem?_toList]; exact h
  simp [e4]
theorem item_neg {x : Str} {k c : Nat} (h : (cl x).reverse[k]? = some c) : Txt.item x (-(k : Int) - 1) = ⟨#[c]⟩ := by
  have hk : k < x.length := by rw [← cl_len, ← List.length_reverse]; exact (List.getElem?_eq_some_iff.mp h).1
  have h' : (cl x)[x.length - 1 - k]? = some c := by
    rw [List.getElem?_reverse (by rw [cl_len]; exact hk), cl_len] at h
    exact h
  unfold Txt.item Txt.charAt seqIndex?
  have e1 : (-(k : Int) - 1) < 0 := by omega
  simp only [e1, if_true]
  have e2 : (-(k : Int) - 1 + (x.length : Int)) = ((x.length - 1 - k : Nat) : Int) := by omega
  rw [e2]
  have e3 : (decide (0 ≤ ((x.length - 1 - k : Nat) : Int)) && decide (((x.length - 1 - k : Nat) : Int) < (x.length : Int))) = true := by
    simp only [Bool.and_eq_true, decide_eq_true_eq]; omega
  rw [if_pos e3]
  have e4 : x.cps[x.length - 1 - k]? = some c := by rw [← Array.getElem?_toList]; exact h'
  simp only [Int.toNat_natCast]
  simp [e4]
set_option genSizeOf false in
set_option genInjectivity false in
/-- the least price, as the program reckons it -/
structure LSt where
  dist : Int
  res : Int
  mn : Int
  row : List Int
noncomputable def inStep (c : Nat) (x : List Nat) (i : Nat) (s : LSt) : LSt :=
  let sub := s.dist + subC c (x.getD i 0)
  let d := s.row.getD i 0
  let r := pmin (pmin s.res d + 2) sub
  ⟨d, r, if r < s.mn then r else s.mn, s.row.set i r⟩
/-- the rest of the turns, from the place i on -/
noncomputable def inL (c : Nat) (x : List Nat) : Nat → Nat → LSt → LSt
  | 0, _, s => s
  | n + 1, i, s => inL c x n (i + 1) (inStep c x i s)
noncomputable def outL (x : List Nat) (mx : Int) : List Nat → Nat → List Int → Int → Int
  | [], _, _, res => res
  | c :: r, bi, row, _ =>
    let s := inL c x x.length 0 ⟨(bi : Int) * 2, (bi : Int) * 2, 9223372036854775807, row⟩
    if mx < s.mn then mx + 1 else outL x mx r (bi + 1) s.row s.res
noncomputable def row0 (n : Nat) : List Int := (List.range n).map fun (i : Nat) => 2 * ((i : Int) + 1)
noncomputable def dpL (x y : List Nat) (mx : Int) : Int := if mx < ((y.length : Int) - x.length) * 2 then mx + 1 else outL x mx y 0 (row0 x.length) 0
noncomputable def levT (a b : List Nat) (mx : Int) : Int := if a = [] ∨ b = [] then 2 * ((a.length : Int) + b.length) else if b.length < a.length then dpL b a mx else dpL a b mx
noncomputable def levS (a b : List Nat) (mx : Int) : Int := let j := lcpL a.reverse b.reverse; levT (a.take (a.length - j)) (b.take (b.length - j)) mx
noncomputable def levL (a b : List Nat) (mx : Int) : Int := if a = b then 0 else levS (a.drop (lcpL a b)) (b.drop (lcpL a b)) mx
section
variable {prog : Program} {w : World} {A : Around} {s : Shared} {h₀ : Heap} {L : Addr} {env : Env} {E : Value → Shared → Prop} {m : Str → Option Value} {news : List (Addr × Obj)}
theorem or_none {x : Str} {p1 p2 p3 : Pos} {kk : Nat} {i : Int} {t : Tok} {Q : Value → Shared → Prop} (F : Fr h₀ env.locals s.heap m) (hm : m x = some (.int i t)) (h : Q (if i = 0 then .none else .int i t) s)
    (hk : env.scope.kind = .function) (hl : env.kindOf x = some .local) (hd : (x == ("__debug__" : Str)) = false) :
    wpAny (model prog w) A (eval (.BoolOp .Or [.Name x p1, .Constant .none kk p2] p3) env) Q E s := by
  refine BoolOp_or (wpAny_Name (wpAny_loadName_local hk hl F.ns hm ?_) hd)
  refine truthy_int ?_
  by_cases hi : i = 0
  · subst hi
    simp only [if_true] at h
    show wpAny (model prog w) A (eval (.Constant .none kk p2) env) Q E s
    exact wpAny_Constant_none h
  · rw [if_neg hi] at h
    have e : (i != 0) = true := by simp [hi]
    rw [e]
    exact h
theorem slice_opt {value slice : PySem.Expr} {x : Str} {t : Tok} {i : Int} {u : Tok} {Q : Value → Shared → Prop} (hF : Fr h₀ L s.heap m) (hN : News h₀ L s.heap news) (h : ∀ h' t' k, Fr h₀ L h' m → News h₀ L h' news → Q (.str (pcut x i) t') { s with heap := h', toks := k }) (hsz : x.length ≤ sizeLine)
    (hs : subscripted slice false (.str x t) (.ref s.heap.objs.size) = operate [.ref s.heap.objs.size, .str x t] (getItem (.str x t) (.ref s.heap.objs.size)))
    (ht : ∀ r, letTemporaryGo value (.str x t) r = pure ()) :
    wpAny (model prog w) A (subscriptTail value slice (.str x t) (.ref s.heap.objs.size)) Q E { s with heap := s.heap.push { cls := .type "slice", data := .fields #[.none, (if i = 0 then .none else .int i u), .none] } } := by
  unfold pcut at h
  by_cases hi : i = 0
  · subst hi
    simp only [if_true] at h ⊢
    exact slice_strN_nn hF hN h hs ht hsz
  · simp only [if_neg hi] at h ⊢
    exact slice_strN_ns hF hN h hs ht hsz
end
end Mine
end
section
open PySem PySem.W PyProof.Rows PySem.Calls PySem.Spec PyProof.V PyProof.Rows.LCg
set_option maxHeartbeats 2000000
namespace Mine
theorem ints_of : ∀ {vs : List Value} {ns : List Int}, vs.length = ns.length → (∀ (i : Nat) (v : Value), vs[i]? = some v → ∃ t, v = Value.int (ns.getD i 0) t) → IntsAre vs ns
  | [], [], _, _ => .nil
  | [], _ :: _, h, _ => by simp at h
  | _ :: _, [], h, _ => by simp at h
  | v :: vs, x :: ns, h, hi => by
    obtain ⟨t, rfl⟩ := hi 0 v rfl
    exact .cons _ t (ints_of (by simpa using h) fun i v' hv => hi (i + 1) v' (by simpa using hv))
theorem levT_nil {a b : List Nat} {mx : Int} (h : a.length = 0 ∨ b.length = 0) : levT a b mx = 2 * ((a.length : Int) + b.length) := by
  unfold levT
  rw [if_pos (h.imp List.eq_nil_of_length_eq_zero List.eq_nil_of_length_eq_zero)]
theorem levT_swap {a b : List Nat} {mx : Int} (ha : a.length ≠ 0) (hb : b.length ≠ 0) (h : b.length < a.length) : levT a b mx = dpL b a mx := by
  unfold levT
  rw [if_neg (fun q => q.elim (fun q => ha (by rw [q]; rfl)) (fun q => hb (by rw [q]; rfl))), if_pos h]
theorem levT_keep {a b : List Nat} {mx : Int} (ha : a.length ≠ 0) (hb : b.length ≠ 0) (h : ¬ b.length < a.length) : levT a b mx = dpL a b mx := by
  unfold levT
  rw [if_neg (fun q => q.elim (fun q => ha (by rw [q]; rfl)) (fun q => hb (by rw [q]; rfl))), if_neg h]
/-- the frame in the loops: what is read is told, the rest is open -/
noncomputable def M4 (res : Int) (tr : Tok) (row : Value) (b a : Value) (mx : Value) (u : Str → Option Value) : Str → Option Value := fun z => if z = Str.ofString "result" then some (.int res tr) else if z = Str.ofString "row" then some row else if z = Str.ofString "b" then some b else if z = Str.ofString "a" then some a else if z = Str.ofString "max_cost" then some mx else u z
theorem M4_ex {m : Str → Option Value} {res : Int} {tr : Tok} {row b a mx : Value} (h1 : m (Str.ofString "result") = some (.int res tr)) (h2 : m (Str.ofString "row") = some row) (h3 : m (Str.ofString "b") = some b) (h4 : m (Str.ofString "a") = some a) (h5 : m (Str.ofString "max_cost") = some mx) : ∃ tr u, m = M4 res tr row b a mx u := by
  refine ⟨tr, m, ?_⟩
  funext z
  unfold M4
  by_cases q1 : z = Str.ofString "result"
  · rw [if_pos q1, q1, h1]
  by_cases q2 : z = Str.ofString "row"
  · rw [if_neg q1, if_pos q2, q2, h2]
  by_cases q3 : z = Str.ofString "b"
  · rw [if_neg q1, if_neg q2, if_pos q3, q3, h3]
  by_cases q4 : z = Str.ofString "a"
  · rw [if_neg q1, if_neg q2, if_neg q3, if_pos q4, q4, h4]
  by_cases q5 : z = Str.ofString "max_cost"
  · rw [if_neg q1, if_neg q2, if_neg q3, if_neg q4, if_pos q5, q5, h5]
  · rw [if_neg q1, if_neg q2, if_neg q3, if_neg q4, if_neg q5]
noncomputable def M3 (b a mx : Value) (u : Str → Option Value) : Str → Option Value := fun z => if z = Str.ofString "b" then some b else if z = Str.ofString "a" then some a else if z = Str.ofString "max_cost" then some mx else u z
theorem M3_ex {m : Str → Option Value} {b a mx : Value} (h3 : m (Str.ofString "b") = some b) (h4 : m (Str.ofString "a") = some a) (h5 : m (Str.ofString "max_cost") = some mx) : ∃ u, m = M3 b a mx u := by
  refine ⟨m, ?_⟩
  funext z
  unfold M3
  by_cases q3 : z = Str.ofString "b"
  · rw [if_pos q3, q3, h3]
  by_cases q4 : z = Str.ofString "a"
  · rw [if_neg q3, if_pos q4, q4, h4]
  by_cases q5 : z = Str.ofString "max_cost"
  · rw [if_neg q3, if_neg q4, if_pos q5, q5, h5]
  · rw [if_neg q3, if_neg q4, if_neg q5]
theorem with_led {h₀ h : Heap} {L : Addr} {P : Prop} {D : Addr} {ys : List Value} {c : Nat} {nx : List (Addr × Obj)} (_N : News h₀ L h ((D, listOf (List.toArray ys) c) :: nx)) (k : ∀ D' ys' c', D' = D → ys' = ys → c' = c → P) : P := k D ys c rfl rfl rfl
theorem M3_ex' {m : Str → Option Value} {y x : Str} {mx : Int} {ty tx tm : Tok} (h3 : m (Str.ofString "b") = some (.str y ty)) (h4 : m (Str.ofString "a") = some (.str x tx)) (h5 : m (Str.ofString "max_cost") = some (.int mx tm)) : ∃ (tx ty tm : Tok) (u : Str → Option Value), m = M3 (.str y ty) (.str x tx) (.int mx tm) u := ⟨tx, ty, tm, M3_ex h3 h4 h5⟩
theorem dpL_far {x y : List Nat} {mx : Int} (h : mx < ((y.length : Int) - x.length) * 2) : dpL x y mx = mx + 1 := by unfold dpL; rw [if_pos h]
theorem dpL_near {x y : List Nat} {mx : Int} (h : ¬ mx < ((y.length : Int) - x.length) * 2) : dpL x y mx = outL x mx y 0 (row0 x.length) 0 := by unfold dpL; rw [if_neg h]
theorem rng_small {n : Nat} (h : n ≤ 7) : Builtin.Range.small 0 (n : Int) 1 = true := by
  have : ∀ i : Fin 8, Builtin.Range.small 0 (i.val : Int) 1 = true := by decide
  exact this ⟨n, Nat.lt_succ_of_le h⟩
theorem rng_size {n : Nat} (h : n ≤ 7) : Builtin.Range.rangeSize 0 (n : Int) 1 = (n : Int) := by
  have : ∀ i : Fin 8, Builtin.Range.rangeSize 0 (i.val : Int) 1 = (i.val : Int) := by decide
  exact this ⟨n, Nat.lt_succ_of_le h⟩
noncomputable def M5 (mn : Int) (tn : Tok) (dist : Int) (td : Tok) (bchar : Value) (res : Int) (tr : Tok) (row : Value) (b a : Value) (mx : Value) (u : Str → Option Value) : Str → Option Value := fun z => if z = Str.ofString "minimum" then some (.int mn tn) else if z = Str.ofString "distance" then some (.int dist td) else if z = Str.ofString "bchar" then some bchar else M4 res tr row b a mx u z
theorem M5_ex {m : Str → Option Value} {mn dist res : Int} {tn td tr : Tok} {bchar row b a mx : Value} (h6 : m (Str.ofString "minimum") = some (.int mn tn)) (h7 : m (Str.ofString "distance") = some (.int dist td)) (h8 : m (Str.ofString "bchar") = some bchar)
    (h1 : m (Str.ofString "result") = some (.int res tr)) (h2 : m (Str.ofString "row") = some row) (h3 : m (Str.ofString "b") = some b) (h4 : m (Str.ofString "a") = some a) (h5 : m (Str.ofString "max_cost") = some mx) : ∃ tn td tr u, m = M5 mn tn dist td bchar res tr row b a mx u := by
  obtain ⟨tr, u, hm⟩ := M4_ex h1 h2 h3 h4 h5
  refine ⟨tn, td, tr, u, ?_⟩
  funext z
  unfold M5
  by_cases q1 : z = Str.ofString "minimum"
  · rw [if_pos q1, q1, h6]
  by_cases q2 : z = Str.ofString "distance"
  · rw [if_neg q1, if_pos q2, q2, h7]
  by_cases q3 : z = Str.ofString "bchar"
  · rw [if_neg q1, if_neg q2, if_pos q3, q3, h8]
  · rw [if_neg q1, if_neg q2, if_neg q3, hm]
theorem M5_ex' {m : Str → Option Value} {mn dist res : Int} {tn td tr tc : Tok} {bchar : Str} {row b a mx : Value} (h6 : m (Str.ofString "minimum") = some (.int mn tn)) (h7 : m (Str.ofString "distance") = some (.int dist td)) (h8 : m (Str.ofString "bchar") = some (.str bchar tc))
    (h1 : m (Str.ofString "result") = some (.int res tr)) (h2 : m (Str.ofString "row") = some row) (h3 : m (Str.ofString "b") = some b) (h4 : m (Str.ofString "a") = some a) (h5 : m (Str.ofString "max_cost") = some mx) : ∃ (tn td tc tr : Tok) (u : Str → Option Value), m = M5 mn tn dist td (.str bchar tc) res tr row b a mx u := by
  obtain ⟨tn, td, tr, u, h⟩ := M5_ex h6 h7 h8 h1 h2 h3 h4 h5
  exact ⟨tn, td, tc, tr, u, h⟩
theorem inL_step {c : Nat} {x : List Nat} {n i : Nat} {s : LSt} (h : i < n) : inL c x (n - i) i s = inL c x (n - (i + 1)) (i + 1) (inStep c x i s) := by
  have e : n - i = (n - (i + 1)) + 1 := by rw [Nat.sub_add_eq, Nat.sub_add_cancel (Nat.sub_pos_of_lt h)]
  rw [e, inL]
theorem inStep_lo {c c2 : Nat} {x : List Nat} {i : Nat} {s : LSt} (hc : x[i]? = some c2) (h : (pmin (pmin s.res (s.row.getD i 0) + 2) (s.dist + subC c c2)) < s.mn) :
    inStep c x i s = ⟨s.row.getD i 0, pmin (pmin s.res (s.row.getD i 0) + 2) (s.dist + subC c c2), pmin (pmin s.res (s.row.getD i 0) + 2) (s.dist + subC c c2), s.row.set i (pmin (pmin s.res (s.row.getD i 0) + 2) (s.dist + subC c c2))⟩ := by
  have hg : x.getD i 0 = c2 := by rw [List.getD_eq_getElem?_getD, hc]; rfl
  unfold inStep
  rw [hg]
  simp only [if_pos h]
theorem inStep_hi {c c2 : Nat} {x : List Nat} {i : Nat} {s : LSt} (hc : x[i]? = some c2) (h : ¬ (pmin (pmin s.res (s.row.getD i 0) + 2) (s.dist + subC c c2)) < s.mn) :
    inStep c x i s = ⟨s.row.getD i 0, pmin (pmin s.res (s.row.getD i 0) + 2) (s.dist + subC c c2), s.mn, s.row.set i (pmin (pmin s.res (s.row.getD i 0) + 2) (s.dist + subC c c2))⟩ := by
  have hg : x.getD i 0 = c2 := by rw [List.getD_eq_getElem?_getD, hc]; rfl
  unfold inStep
  rw [hg]
  simp only [if_neg h]
section
variable {prog : Program} {w : World} {A : Around} {s : Shared} {h₀ : Heap} {L : Addr} {env : Env} {E : Value → Shared → Prop} {m : Str → Option Value} {news rest : List (Addr × Obj)}
theorem list_row0 {r : Addr} {n : Nat} {t u v : Tok} {Q : Value → Shared → Prop} (hh : A.handled = none) (F : Fr h₀ L s.heap m) (N : News h₀ L s.heap news) (hr : IsRange s.heap r 2 (2 * ((n : Int) + 1)) 2 t u v) (hn : n ≤ 7)
    (h : ∀ D ys c h' tk, Fr h₀ L h' m → News h₀ L h' ((D, listOf (List.toArray ys) c) :: news) → (∀ p ∈ news, p.1 < D) → IntsAre ys (row0 n) → Q (.ref D) { s with heap := h', toks := tk }) :
    wpAny (model prog w) A (call (.type "list") [.ref r]) Q E s := by
  have hsm : Builtin.Range.small 2 (2 * ((n : Int) + 1)) 2 = true := by
    have : ∀ i : Fin 8, Builtin.Range.small 2 (2 * ((i.val : Int) + 1)) 2 = true := by decide
    exact this ⟨n, Nat.lt_succ_of_le hn⟩
  have hsz : Builtin.Range.rangeSize 2 (2 * ((n : Int) + 1)) 2 = (n : Int) := by
    have : ∀ i : Fin 8, Builtin.Range.rangeSize 2 (2 * ((i.val : Int) + 1)) 2 = (i.val : Int) := by decide
    exact this ⟨n, Nat.lt_succ_of_le hn⟩
  refine call_list_range hh hr hsm hsz (by omega) fun h' tk acc c hk hD hi => ?_
  have hfr : h₀.get? s.heap.objs.size = none := next_is_new F
  have hlt : ∀ p ∈ news, p.1 < s.heap.objs.size := fun p hp => Heap.lt_size (N p hp).1
  refine h _ acc.toList c h' tk (F.keeps hk) (fun p hp => ?_) hlt ?_
  · rcases List.mem_cons.mp hp with rfl | hp
    · exact ⟨by simpa using hD, Ne.symm (Nat.ne_of_lt F.ns.lt), hfr⟩
    · exact ⟨hk _ _ (N p hp).1, (N p hp).2⟩
  · refine ints_of ?_ fun i v hv => ?_
    · rw [Array.length_toList, hi.1]; unfold row0; simp
    · have hv' : acc[i]? = some v := by rw [← hv]; exact Array.getElem?_toList.symm
      have hin : i < n := by
        rw [← hi.1]
        exact (Array.getElem?_eq_some_iff.mp hv').1
      obtain ⟨t', rfl⟩ := hi.2 i v hv'
      refine ⟨t', ?_⟩
      have e : (row0 n).getD i 0 = 2 + (i : Int) * 2 := by
        unfold row0
        rw [List.getD_eq_getElem?_getD, List.getElem?_map, List.getElem?_range hin]
        simp only [Option.map_some, Option.getD_some]
        omega
      rw [e]
theorem get_row {value slice : PySem.Expr} {D : Addr} {vs : List Value} {ns : List Int} {n i : Nat} {u : Tok} {Q : Value → Shared → Prop} (N : News h₀ L s.heap ((D, listOf vs.toArray n) :: rest)) (hi : IntsAre vs ns) (h1 : i < ns.length) (hl : ns.length ≤ 7) (h : ∀ t, Q (.int (ns.getD i 0) t) s)
    (hs : subscripted slice false (.ref D) (.int (i : Int) u) = operate [.ref D, .int (i : Int) u] (getItem (.ref D) (.int (i : Int) u))) :
    wpAny (model prog w) A (subscriptTail value slice (.ref D) (.int (i : Int) u)) Q E s :=
  ksa_sub N (List.mem_cons_self ..) hi (by omega) (by omega) (by omega) (fun t => by rw [Int.toNat_natCast]; exact h t) hs
theorem set_row {D : Addr} {vs : List Value} {ns : List Int} {n i : Nat} {x : Int} {t u : Tok} {Q : Unit → Shared → Prop} (F : Fr h₀ L s.heap m) (N : News h₀ L s.heap ((D, listOf vs.toArray n) :: rest)) (hne : ∀ p ∈ rest, p.1 ≠ D) (hi : IntsAre vs ns) (h1 : i < ns.length) (hl : ns.length ≤ 7)
    (h : ∀ h' vs', Fr h₀ L h' m → News h₀ L h' ((D, listOf (List.toArray vs') n) :: rest) → IntsAre vs' (ns.set i x) → Q () { s with heap := h' }) :
    wpAny (model prog w) A (setItem (.ref D) (.int (i : Int) t) (.int x u)) Q E s :=
  ksa_set F N (Upd.head hne) hi (by omega) (by omega) (by omega) fun h' F' N' hI _ _ => by
    rw [Int.toNat_natCast] at N' hI
    exact h h' _ F' N' hI
theorem item_code {value slice : PySem.Expr} {x : Str} {t : Tok} {k c : Nat} {u : Tok} {Q : Value → Shared → Prop} (hc : (cl x)[k]? = some c) (hx : x.length ≤ 7) (h : ∀ t tk, Q (.str ⟨#[c]⟩ t) { s with toks := tk })
    (hs : subscripted slice false (.str x t) (.int (k : Int) u) = operate [.str x t, .int (k : Int) u] (getItem (.str x t) (.int (k : Int) u)))
    (ht : ∀ r, letTemporaryGo value (.str x t) r = pure ()) :
    wpAny (model prog w) A (subscriptTail value slice (.str x t) (.int (k : Int) u)) Q E s := by
  have hk : k < x.length := by rw [← cl_len]; exact (List.getElem?_eq_some_iff.mp hc).1
  refine item_str (by unfold fitsSsize; simp only [Bool.not_eq_true', Bool.or_eq_false_iff, decide_eq_false_iff_not]; omega) (by omega) (by omega) (fun _ => ?_) hs ht
  rw [item_nat hc]
  exact h _ _
end
end Mine
end
section
open PySem PySem.W PyProof.Rows PyProof.Rows.LCg
set_option maxHeartbeats 8000000
set_option pp.deepTerms false
set_option pp.maxSteps 3000
namespace Mine

noncomputable def StopW (P : Prop) : Prop := P
theorem stopW {P : Prop} (h : StopW P) : P := h
noncomputable def M1 (k : Nat) (t : Tok) (a b : Str) (ta tb tm : Tok) (mx : Int) : Str → Option Value := fun y => if y = Str.ofString "pre" then some (.int (k : Int) t) else List.lookup y [(Str.ofString "max_cost", .int mx tm), (Str.ofString "b", .str b tb), (Str.ofString "a", .str a ta)]
theorem M1_ex {m : Str → Option Value} {k : Nat} {t : Tok} {a b : Str} {ta tb tm : Tok} {mx : Int} (h1 : m (Str.ofString "pre") = some (.int (k : Int) t)) (h2 : ∀ y, y ≠ Str.ofString "pre" → m y = List.lookup y [(Str.ofString "max_cost", .int mx tm), (Str.ofString "b", .str b tb), (Str.ofString "a", .str a ta)]) : ∃ t, m = M1 k t a b ta tb tm mx := by
  refine ⟨t, ?_⟩
  funext y
  unfold M1
  by_cases q1 : y = Str.ofString "pre"
  · rw [if_pos q1, q1, h1]
  · rw [if_neg q1, h2 y q1]
noncomputable def M2 (i : Int) (tp : Tok) (a b : Str) (ta tb tm : Tok) (mx : Int) (u : Option Value) : Str → Option Value := fun y => if y = Str.ofString "post" then some (.int i tp) else if y = Str.ofString "b" then some (.str b tb) else if y = Str.ofString "a" then some (.str a ta) else if y = Str.ofString "max_cost" then some (.int mx tm) else if y = Str.ofString "pre" then u else none
theorem M2_ex {m : Str → Option Value} {i : Int} {tp : Tok} {a b : Str} {ta tb tm : Tok} {mx : Int} (h1 : m (Str.ofString "post") = some (.int i tp)) (h2 : m (Str.ofString "b") = some (.str b tb)) (h3 : m (Str.ofString "a") = some (.str a ta)) (h4 : m (Str.ofString "max_cost") = some (.int mx tm))
    (h5 : ∀ y, y ≠ Str.ofString "post" → y ≠ Str.ofString "b" → y ≠ Str.ofString "a" → y ≠ Str.ofString "max_cost" → y ≠ Str.ofString "pre" → m y = none) : ∃ tp ta tb tm u, m = M2 i tp a b ta tb tm mx u := by
  refine ⟨tp, ta, tb, tm, m (Str.ofString "pre"), ?_⟩
  funext y
  unfold M2
  by_cases q1 : y = Str.ofString "post"
  · rw [if_pos q1, q1, h1]
  by_cases q2 : y = Str.ofString "b"
  · rw [if_neg q1, if_pos q2, q2, h2]
  by_cases q3 : y = Str.ofString "a"
  · rw [if_neg q1, if_neg q2, if_pos q3, q3, h3]
  by_cases q4 : y = Str.ofString "max_cost"
  · rw [if_neg q1, if_neg q2, if_neg q3, if_pos q4, q4, h4]
  by_cases q5 : y = Str.ofString "pre"
  · rw [if_neg q1, if_neg q2, if_neg q3, if_neg q4, if_pos q5, q5]
  · rw [if_neg q1, if_neg q2, if_neg q3, if_neg q4, if_neg q5, h5 y q1 q2 q3 q4 q5]
theorem lk3 {y : Str} {v1 v2 v3 : Value} (h2 : y ≠ Str.ofString "b") (h3 : y ≠ Str.ofString "a") (h4 : y ≠ Str.ofString "max_cost") : List.lookup y [(Str.ofString "max_cost", v1), (Str.ofString "b", v2), (Str.ofString "a", v3)] = none := by
  simp only [List.lookup, beq_false_of_ne h2, beq_false_of_ne h3, beq_false_of_ne h4]
theorem beq_nat {x y : Str} {k : Nat} (hx : k < x.length) (hy : k < y.length) : (Txt.item x (k : Int) == Txt.item y (k : Int)) = decide ((cl x)[k]? = (cl y)[k]?) := by
  have h1 : (cl x)[k]? = some ((cl x)[k]'(by rw [cl_len]; exact hx)) := List.getElem?_eq_getElem _
  have h2 : (cl y)[k]? = some ((cl y)[k]'(by rw [cl_len]; exact hy)) := List.getElem?_eq_getElem _
  rw [item_nat h1, item_nat h2, one_beq, h1, h2]
  simp
theorem beq_neg {x y : Str} {k : Nat} (hx : k < x.length) (hy : k < y.length) : (Txt.item x (-(k : Int) - 1) == Txt.item y (-(k : Int) - 1)) = decide ((cl x).reverse[k]? = (cl y).reverse[k]?) := by
  have h1 : (cl x).reverse[k]? = some ((cl x).reverse[k]'(by rw [List.length_reverse, cl_len]; exact hx)) := List.getElem?_eq_getElem _
  have h2 : (cl y).reverse[k]? = some ((cl y).reverse[k]'(by rw [List.length_reverse, cl_len]; exact hy)) := List.getElem?_eq_getElem _
  rw [item_neg h1, item_neg h2, one_beq, h1, h2]
  simp
/-! what the slices that are not empty tell -/
theorem fits_i {i : Int} (h1 : -9 ≤ i) (h2 : i ≤ 9) : fitsSsize i = true := by
  unfold fitsSsize
  rw [decide_eq_false (by omega), decide_eq_false (by omega)]
  rfl
theorem fits_k {k l : Nat} (h : k ≤ l) (h7 : l ≤ 7) : fitsSsize (k : Int) = true := fits_i (by omega) (by omega)
theorem fits_n {k l : Nat} (h : k ≤ l) (h7 : l ≤ 7) : fitsSsize (-(k : Int) - 1) = true := fits_i (by omega) (by omega)
theorem s_lt {x : Str} {k : Nat} (h : ((Txt.slice x (some (k : Int)) none).length : Int) ≠ 0) : k < x.length := by rw [from_len] at h; omega
theorem s_hi {x : Str} {k : Nat} (h : ((Txt.slice x (some (k : Int)) none).length : Int) ≠ 0) : (k : Int) < (x.length : Int) := Int.ofNat_lt.mpr (s_lt h)
theorem s_lo {x : Str} {k : Nat} : -(x.length : Int) ≤ (k : Int) := by omega
theorem p_lt {x : Str} {j : Nat} (h : ((pcut x (-(j : Int))).length : Int) ≠ 0) : j < x.length := by rw [pcut_len] at h; omega
theorem neg_lo {j l : Nat} (h : j < l) : -(l : Int) ≤ -(j : Int) - 1 := by omega
theorem p_lo {x : Str} {j : Nat} (h : ((pcut x (-(j : Int))).length : Int) ≠ 0) : -(x.length : Int) ≤ -(j : Int) - 1 := neg_lo (p_lt h)
theorem p_hi {x : Str} {j : Nat} : -(j : Int) - 1 < (x.length : Int) := by omega
theorem s_none {x : Str} {k : Nat} (h : ((Txt.slice x (some (k : Int)) none).length : Int) = 0) : (cl x)[k]? = none := List.getElem?_eq_none (by rw [from_len] at h; rw [cl_len]; omega)
theorem p_none {x : Str} {j : Nat} (h : ((pcut x (-(j : Int))).length : Int) = 0) : (cl x).reverse[j]? = none := List.getElem?_eq_none (by rw [pcut_len] at h; rw [List.length_reverse, cl_len]; omega)
theorem pcut_le7 {x : Str} {j : Nat} (h : x.length ≤ 7) : (pcut x (-(j : Int))).length ≤ 7 := by rw [pcut_len]; exact Nat.le_trans (Nat.sub_le ..) h
theorem le_cl {x : Str} {k : Nat} (h : k ≤ x.length) : k ≤ (cl x).length := by rw [cl_len]; exact h
theorem le_rev {x : Str} {k : Nat} (h : k ≤ x.length) : k ≤ (cl x).reverse.length := by rw [List.length_reverse, cl_len]; exact h
theorem seven_lt {n k l : Nat} (hk : n + k = 7) (h : k < l) (h7 : l ≤ 7) : n - 1 < n := by omega
theorem seven_eq {n k l : Nat} (hk : n + k = 7) (h : k < l) (h7 : l ≤ 7) : n - 1 + (k + 1) = 7 := by omega
theorem neg_succ (j : Nat) : -((j + 1 : Nat) : Int) = -(j : Int) - 1 := by omega
theorem c50 (w : World) (mean : ExcName → Option Value) (mg mb : Str → Option Value) (a b : Str) (mx : Int) (ta tb tm : Tok) (ha7 : a.length ≤ 7) (hb7 : b.length ≤ 7) (haS : Signs a) (hbS : Signs b) :
  CL w mean mg mb 50 3 40 [.str a ta, .str b tb, .int mx tm] (fun t => .int (levL (cl a) (cl b) mx) t) := by
  dsimp only [CL]; w_top off; k_with_none; k_fill
  k_with "exec If" => (k_here; (with_reducible show wpAny _ _ (exec (Stmt.If (Expr.Compare (Expr.Call _ _ _ _) [CmpOp.Lt] _ _) _ _ _) _) _ _ _); (fail_if_success (rename TryMark => tMxw0)); refine stopW ?_)
  k_with "exec While BoolOp" => (k_here; refine stopW ?_)
  k_with "subscriptTail" => (k_here; ((with_reducible rename Fr _ _ _ _ => Fqw2); (with_reducible rename News _ _ _ _ => Nqw2); (with_reducible show wpAny _ _ (subscriptTail _ (Expr.Slice (some _) none none _) (Value.str _ _) (Value.ref _)) _ _ _); (refine slice_strN_sn (hsz := ?hsz) (s := ⟨_, _, _, _, _⟩) Fqw2 Nqw2 ?_); (case hsz => (refine sz7 ?_; first | assumption | omega | (refine szS ?_; assumption) | (refine szR ?_; assumption))); intro _ _ _ _ _))
  k_with "subscriptTail" => (k_here; (with_reducible show wpAny _ _ (subscriptTail _ _ (Value.str _ _) (Value.int _ _)) _ _ _); (refine item_str ?h0 ?h1 ?h2 ?_); (case h0 => (first | decide | exact fits_k (by assumption) (by assumption) | exact fits_n (by assumption) (by assumption))); (case h1 => first | with_reducible exact s_lo | with_reducible exact p_lo (by assumption) | omega); (case h2 => first | with_reducible exact s_hi (by assumption) | with_reducible exact p_hi | omega); k_whole; intro _)
  k_with "isTrue BoolOp And cons" => (k_here; (with_reducible refine isTrue_and ?_); k_whole)
  k_with "isTrue BoolOp And nil" => (k_here; (with_reducible refine isTrue_and_nil ?_); k_whole)
  k_with "eval BoolOp" => (k_here; (rename Fr _ _ _ _ => lFqw6); k_dflt (refine or_none (hk := by rfl) (hl := by rfl) (hd := by decide) lFqw6 (by with_unfolding_all rfl) ?_); k_whole)
  k_with "subscriptTail" => (k_here; ((with_reducible rename Fr _ _ _ _ => Fqw7); (with_reducible rename News _ _ _ _ => Nqw7); (with_reducible show wpAny _ _ (subscriptTail _ (Expr.Slice none (some _) none _) (Value.str _ _) (Value.ref _)) _ _ _); (refine slice_opt (hs := by with_unfolding_all rfl) (ht := by intro _; with_unfolding_all rfl) (s := ⟨_, _, _, _, _⟩) Fqw7 Nqw7 ?_ ?hsz); (case hsz => (refine sz7 ?_; first | assumption | omega | (refine szS ?_; assumption) | (refine szR ?_; assumption))); intro _ _ _ _ _))
  k_with "call type:list" => (k_here; (rename Fr _ _ _ _ => lFqw8); (rename News _ _ _ _ => lNqw8); k_dflt (refine list_row0 (by rfl) lFqw8 lNqw8 (by assumption) (by assumption) ?_); k_whole; intro _ _ _ _ _ _ _ _ _)
  k_with "exec For Name Call cons nil" => (k_here; (rename Fr _ _ _ _ => lFqw9); (with_unfolding_all refine' For_J (hs := by intro _; rfl) (hE := by passes_own) lFqw9 ?_); k_whole)
  k_with "pyIter ref" => (k_here; refine stopW ?_)
  k_with "subscriptTail Name Name str int" => (k_here; k_dflt (refine item_code (hs := by with_unfolding_all rfl) (ht := by intro _; with_unfolding_all rfl) (by assumption) (by assumption) ?_); k_whole; intro _ _)
  k_with "call ref" => (k_here; k_dflt (refine' c43 _ _ _ _ _ _ _ _ (by assumption) (by assumption) _ _ _ _ _ _ _ _ _ _ _ _ _ _ _ _ _ _ (by k_asm) (by k_asm) (by k_asm) (by k_asm) (by k_asm) (by first | exact rfl | assumption) (by ktr_room) (by ktr_units) ?_; k_whole); intro t9w12 h9w12 tk9w12 F9w12 N9w12; (try dsimp only); (try k_fold))
  k_with "subscriptTail Name Name ref int" => (k_here; (rename News _ _ _ _ => lNqw13); k_dflt (refine get_row (hs := by with_unfolding_all rfl) lNqw13 (by assumption) (by assumption) (by assumption) ?_); k_whole; intro _)
  k_with "setItem ref int" => (k_here; (rename Fr _ _ _ _ => lFqw14); (rename News _ _ _ _ => lNqw14); k_dflt (refine set_row lFqw14 lNqw14 (by assumption) (by assumption) (by assumption) (by assumption) ?_); k_whole; intro _ _ _ _ _)
  intro news dp un gd cn cs a0 ccd cl0 outer A₀ base h₀ L m s Q E hB hF0 hX hN hT hk hd hu hret
  refine wpAny_call ?_
  replace hret := fun (v : Int) (e : v = levL (cl a) (cl b) mx) => e.symm ▸ hret
  k_dflt (refine' code_def (binds := [(Str.ofString "a", .str a ta), (Str.ofString "b", .str b tb), (Str.ofString "max_cost", .int mx tm)]) ?k1 ?k2 ?k3 ?k4 ?k5 ?kA ?kF ?kK ?k6 ?k7 ?k8 ?k9 ?kB ?_ ?c2 ?c3 ?c4 ?c5; (case kA => exact rfl); (case kF => exact rfl); (case kK => assumption); (case k1 => k_asm); (case k2 => k_asm); (case k3 => k_asm); (case k4 => k_asm); (case k5 => k_asm); (case k6 => k_is); (case k7 => k_is); (case k8 => ktr_room); (case k9 => exact BindsTo.of_eq rfl); (case c5 => decide); (case kB => exact locs rfl); (case c2 => exact rfl); (case c3 => exact rfl); (case c4 => exact rfl); k_whole; intro g' L' h' FG' F' N' B' X' T'; (try dsimp only [List.reverse_cons, List.reverse_nil, List.nil_append, List.cons_append] at F'); (try dsimp only); (try k_lift B'); (try k_fold))
  k_steps
  · rename ((a == b) = true) => hab
    have e : (0 : Int) = levL (cl a) (cl b) mx := by
      have : a = b := eq_of_beq hab
      unfold levL; rw [this, if_pos rfl]
    exact hret 0 e _ _ _ (by assumption) (by assumption)
  rename ((a == b) = false) => hab
  have hab' : cl a ≠ cl b := fun q => by rw [cl_inj q] at hab; simp at hab
  have hle := lcp_le (cl a) (cl b)
  rw [cl_len, cl_len] at hle
  rename Fr _ _ _ _ => lF'
  rename News _ _ _ _ => lN'
  unfold StopW
  refine While_J lF' lN' (fun n m => ∃ (k : Nat), n + k = 7 ∧ (cl a).take k = (cl b).take k ∧ k ≤ a.length ∧ k ≤ b.length ∧ ∃ t, m = M1 k t a b ta tb tm mx) (fun m => ∃ t, m = M1 (lcpL (cl a) (cl b)) t a b ta tb tm mx) 7 ⟨0, rfl, rfl, Nat.zero_le _, Nat.zero_le _, M1_ex (by with_unfolding_all rfl) (fun y h1 => by rw [if_neg h1]; rfl)⟩ ?turn ?done
  case turn =>
    rintro n m hh tkk E' ⟨k, hk, hpre, hka, hkb, t, rfl⟩ FF NN
    change Fr g' L' hh _ at FF
    change News g' L' hh _ at NN
    unfold M1 at FF
    clear lF' lN'
    have hfa : (Txt.slice a (some (k : Int)) none).length ≤ 7 := szS ha7
    have hfb : (Txt.slice b (some (k : Int)) none).length ≤ 7 := szS hb7
    (try dsimp only)
    (try k_fold)
    k_steps
    · rename Fr _ _ _ _ => fF
      rename News _ _ _ _ => fN
      rename ((_ == _) = true) => hq
      have ka : k < a.length := s_lt (by assumption)
      have kb : k < b.length := s_lt (by assumption)
      rw [beq_nat ka kb] at hq
      have hq := of_decide_eq_true hq
      refine ⟨rfl, n - 1, _, _, _, seven_lt hk ka ha7, rfl, fF, fN, k + 1, seven_eq hk ka ha7, by rw [List.take_add_one, List.take_add_one, hpre, hq], ka, kb, M1_ex (by with_unfolding_all rfl) (fun y h1 => by simp only [if_neg h1])⟩
    · rename Fr _ _ _ _ => fF
      rename News _ _ _ _ => fN
      rename ((Txt.item _ _ == _) = false) => hq
      rw [beq_nat (s_lt (by assumption)) (s_lt (by assumption))] at hq
      have hq := of_decide_eq_false hq
      have hx := lcp_exit k (cl a) (cl b) hpre (le_cl hka) (le_cl hkb) (.inr (.inr hq))
      refine ⟨_, _, _, rfl, fF, fN, ?_⟩
      rw [hx]
      exact M1_ex (by with_unfolding_all rfl) (fun y h1 => by simp only [if_neg h1])
    · rename Fr _ _ _ _ => fF
      rename News _ _ _ _ => fN
      have hx := lcp_exit k (cl a) (cl b) hpre (le_cl hka) (le_cl hkb) (.inr (.inl (s_none (by assumption))))
      refine ⟨_, _, _, rfl, fF, fN, ?_⟩
      rw [hx]
      exact M1_ex (by with_unfolding_all rfl) (fun y h1 => by simp only [if_neg h1])
    · rename Fr _ _ _ _ => fF
      rename News _ _ _ _ => fN
      have hx := lcp_exit k (cl a) (cl b) hpre (le_cl hka) (le_cl hkb) (.inl (s_none (by assumption)))
      refine ⟨_, _, _, rfl, fF, fN, ?_⟩
      rw [hx]
      exact M1_ex (by with_unfolding_all rfl) (fun y h1 => by simp only [if_neg h1])
  case done =>
    rintro hh tkk m ⟨t, rfl⟩ FF NN
    change Fr g' L' hh _ at FF
    change News g' L' hh _ at NN
    unfold M1 at FF
    clear lF' lN'
    have ea := cl_from a (lcpL (cl a) (cl b))
    have eb := cl_from b (lcpL (cl a) (cl b))
    have hR : levL (cl a) (cl b) mx = levS ((cl a).drop (lcpL (cl a) (cl b))) ((cl b).drop (lcpL (cl a) (cl b))) mx := by unfold levL; rw [if_neg hab']
    rw [← ea, ← eb] at hR
    (try dsimp only)
    (try k_fold)
    k_steps
    rename Fr _ _ _ _ => lF'
    rename News _ _ _ _ => lN'
    unfold StopW
    have la1 : (Txt.slice a (some ((lcpL (cl a) (cl b) : Nat) : Int)) none).length ≤ 7 := szS ha7
    have lb1 : (Txt.slice b (some ((lcpL (cl a) (cl b) : Nat) : Int)) none).length ≤ 7 := szS hb7
    have hSa : Signs (Txt.slice a (some ((lcpL (cl a) (cl b) : Nat) : Int)) none) := fun c hc => haS c (by rw [ea] at hc; exact List.mem_of_mem_drop hc)
    have hSb : Signs (Txt.slice b (some ((lcpL (cl a) (cl b) : Nat) : Int)) none) := fun c hc => hbS c (by rw [eb] at hc; exact List.mem_of_mem_drop hc)
    obtain ⟨m2, hm2, F2⟩ : ∃ m2, (∃ tp ta tb tm u, m2 = M2 0 tp (Txt.slice a (some ((lcpL (cl a) (cl b) : Nat) : Int)) none) (Txt.slice b (some ((lcpL (cl a) (cl b) : Nat) : Int)) none) ta tb tm mx u) ∧ Fr g' L' _ m2 := by
      refine ⟨_, ?_, lF'⟩
      exact M2_ex (by with_unfolding_all rfl) (by with_unfolding_all rfl) (by with_unfolding_all rfl) (by with_unfolding_all rfl) (fun y h1 h2 h3 h4 h5 => by simp only [if_neg h1, if_neg h2, if_neg h3, if_neg h5]; exact lk3 h2 h3 h4)
    clear lF' ea eb
    generalize Txt.slice a (some ((lcpL (cl a) (cl b) : Nat) : Int)) none = a1 at *
    generalize Txt.slice b (some ((lcpL (cl a) (cl b) : Nat) : Int)) none = b1 at *
    have hna1 : (cl a1).length = a1.length := cl_len a1
    have hnb1 : (cl b1).length = b1.length := cl_len b1
    have hra1 : (cl a1).reverse.length = a1.length := by rw [List.length_reverse, hna1]
    have hrb1 : (cl b1).reverse.length = b1.length := by rw [List.length_reverse, hnb1]
    refine While_J F2 lN' (fun n m => ∃ (j : Nat), n + j = 7 ∧ (cl a1).reverse.take j = (cl b1).reverse.take j ∧ j ≤ a1.length ∧ j ≤ b1.length ∧ ∃ tp ta tb tm u, m = M2 (-(j : Int)) tp a1 b1 ta tb tm mx u) (fun m => ∃ tp ta tb tm u, m = M2 (-((lcpL (cl a1).reverse (cl b1).reverse : Nat) : Int)) tp a1 b1 ta tb tm mx u) 7 ⟨0, rfl, rfl, Nat.zero_le _, Nat.zero_le _, hm2⟩ ?turn2 ?done2
    case turn2 =>
      clear F2 lN' hm2
      clear hna1 hnb1 hra1 hrb1
      rintro n m hh tkk E' ⟨j, hj, hsuf, hja, hjb, tp, tA, tB, tM, u, rfl⟩ FF NN
      change Fr g' L' hh _ at FF
      change News g' L' hh _ at NN
      unfold M2 at FF
      have hfa : (pcut a1 (-(j : Int))).length ≤ 7 := pcut_le7 la1
      have hfb : (pcut b1 (-(j : Int))).length ≤ 7 := pcut_le7 lb1
      (try dsimp only)
      (try k_fold)
      k_steps
      · rename Fr _ _ _ _ => fF
        rename News _ _ _ _ => fN
        rename ((_ == _) = true) => hq
        have ka : j < a1.length := p_lt (by assumption)
        have kb : j < b1.length := p_lt (by assumption)
        rw [beq_neg ka kb] at hq
        have hq := of_decide_eq_true hq
        have e := neg_succ j
        refine ⟨rfl, n - 1, _, _, _, seven_lt hj ka la1, rfl, fF, fN, j + 1, seven_eq hj ka la1, by rw [List.take_add_one, List.take_add_one, hsuf, hq], ka, kb, ?_⟩
        rw [e]
        exact M2_ex (by with_unfolding_all rfl) (by with_unfolding_all rfl) (by with_unfolding_all rfl) (by with_unfolding_all rfl) (fun y h1 h2 h3 h4 h5 => by simp only [if_neg h1, if_neg h2, if_neg h3, if_neg h4, if_neg h5])
      · rename Fr _ _ _ _ => fF
        rename News _ _ _ _ => fN
        rename ((Txt.item _ _ == _) = false) => hq
        rw [beq_neg (p_lt (by assumption)) (p_lt (by assumption))] at hq
        have hq := of_decide_eq_false hq
        have hx := lcp_exit j (cl a1).reverse (cl b1).reverse hsuf (le_rev hja) (le_rev hjb) (.inr (.inr hq))
        refine ⟨_, _, _, rfl, fF, fN, ?_⟩
        rw [hx]
        exact M2_ex (by with_unfolding_all rfl) (by with_unfolding_all rfl) (by with_unfolding_all rfl) (by with_unfolding_all rfl) (fun y h1 h2 h3 h4 h5 => by simp only [if_neg h1, if_neg h2, if_neg h3, if_neg h4, if_neg h5])
      · rename Fr _ _ _ _ => fF
        rename News _ _ _ _ => fN
        have hx := lcp_exit j (cl a1).reverse (cl b1).reverse hsuf (le_rev hja) (le_rev hjb) (.inr (.inl (p_none (by assumption))))
        refine ⟨_, _, _, rfl, fF, fN, ?_⟩
        rw [hx]
        exact M2_ex (by with_unfolding_all rfl) (by with_unfolding_all rfl) (by with_unfolding_all rfl) (by with_unfolding_all rfl) (fun y h1 h2 h3 h4 h5 => by simp only [if_neg h1, if_neg h2, if_neg h3, if_neg h4, if_neg h5])
      · rename Fr _ _ _ _ => fF
        rename News _ _ _ _ => fN
        have hx := lcp_exit j (cl a1).reverse (cl b1).reverse hsuf (le_rev hja) (le_rev hjb) (.inl (p_none (by assumption)))
        refine ⟨_, _, _, rfl, fF, fN, ?_⟩
        rw [hx]
        exact M2_ex (by with_unfolding_all rfl) (by with_unfolding_all rfl) (by with_unfolding_all rfl) (by with_unfolding_all rfl) (fun y h1 h2 h3 h4 h5 => by simp only [if_neg h1, if_neg h2, if_neg h3, if_neg h4, if_neg h5])
    case done2 =>
      clear F2 lN' hm2
      have hle2 := lcp_le (cl a1).reverse (cl b1).reverse
      rw [hra1, hrb1] at hle2
      rintro hh tkk m ⟨tp, tA, tB, tM, u, rfl⟩ FF NN
      change Fr g' L' hh _ at FF
      change News g' L' hh _ at NN
      unfold M2 at FF
      have ea := cl_pcut a1 (lcpL (cl a1).reverse (cl b1).reverse)
      have eb := cl_pcut b1 (lcpL (cl a1).reverse (cl b1).reverse)
      have hR2 : levS (cl a1) (cl b1) mx = levT ((cl a1).take ((cl a1).length - lcpL (cl a1).reverse (cl b1).reverse)) ((cl b1).take ((cl b1).length - lcpL (cl a1).reverse (cl b1).reverse)) mx := rfl
      rw [hna1, hnb1, ← ea, ← eb] at hR2
      rw [hR2] at hR
      have la2 : (pcut a1 (-((lcpL (cl a1).reverse (cl b1).reverse : Nat) : Int))).length ≤ 7 := pcut_le7 la1
      have lb2 : (pcut b1 (-((lcpL (cl a1).reverse (cl b1).reverse : Nat) : Int))).length ≤ 7 := pcut_le7 lb1
      (try dsimp only)
      (try k_fold)
      have hpa : (pcut a1 (-((lcpL (cl a1).reverse (cl b1).reverse : Nat) : Int))).length = (cl (pcut a1 (-((lcpL (cl a1).reverse (cl b1).reverse : Nat) : Int)))).length := (cl_len _).symm
      have hpb : (pcut b1 (-((lcpL (cl a1).reverse (cl b1).reverse : Nat) : Int))).length = (cl (pcut b1 (-((lcpL (cl a1).reverse (cl b1).reverse : Nat) : Int)))).length := (cl_len _).symm
      have hSa2 : Signs (pcut a1 (-((lcpL (cl a1).reverse (cl b1).reverse : Nat) : Int))) := fun c hc => hSa c (by rw [ea] at hc; exact List.mem_of_mem_take hc)
      have hSb2 : Signs (pcut b1 (-((lcpL (cl a1).reverse (cl b1).reverse : Nat) : Int))) := fun c hc => hSb c (by rw [eb] at hc; exact List.mem_of_mem_take hc)
      clear ea eb hR2
      k_steps
      rotate_left
      · exact hret _ (by rw [hR, levT_nil (.inr (by rw [cl_len]; omega)), ← hpa, ← hpb]) _ _ _ (by assumption) (by assumption)
      · exact hret _ (by rw [hR, levT_nil (.inl (by rw [cl_len]; omega)), ← hpa, ← hpb]) _ _ _ (by assumption) (by assumption)
      rename Fr _ _ _ _ => lF'
      rename News _ _ _ _ => lN'
      generalize pcut a1 (-((lcpL (cl a1).reverse (cl b1).reverse : Nat) : Int)) = a2 at *
      generalize pcut b1 (-((lcpL (cl a1).reverse (cl b1).reverse : Nat) : Int)) = b2 at *
      unfold StopW
      refine cut_stmt lF' lN' (fun m nx => nx = news ∧ ∃ x y : Str, Signs x ∧ Signs y ∧ x.length ≤ 7 ∧ y.length ≤ 7 ∧ levT (cl a2) (cl b2) mx = dpL (cl x) (cl y) mx ∧ ∃ (tx ty tm : Tok) (u : Str → Option Value), m = M3 (.str y ty) (.str x tx) (.int mx tm) u) ?hif ?rest
      case hif =>
        clear hret
        have tMark := tryMark
        k_steps
        · rename Fr _ _ _ _ => fF
          rename News _ _ _ _ => fN
          refine ⟨rfl, _, _, _, news, rfl, fF, fun p hp => fN p (List.mem_cons_of_mem _ hp), rfl, b2, a2, hSb2, hSa2, lb2, la2, levT_swap (by rw [cl_len]; omega) (by rw [cl_len]; omega) (by rw [cl_len, cl_len]; omega), ?_⟩
          exact M3_ex' (by with_unfolding_all rfl) (by with_unfolding_all rfl) (by with_unfolding_all rfl)
        · rename Fr _ _ _ _ => fF
          rename News _ _ _ _ => fN
          refine ⟨rfl, _, _, _, news, rfl, fF, fN, rfl, a2, b2, hSa2, hSb2, la2, lb2, levT_keep (by rw [cl_len]; omega) (by rw [cl_len]; omega) (by rw [cl_len, cl_len]; omega), ?_⟩
          exact M3_ex' (by with_unfolding_all rfl) (by with_unfolding_all rfl) (by with_unfolding_all rfl)
      case rest =>
        clear lF' lN'
        rintro hh tkk m nx ⟨rfl, x, y, hSx, hSy, hlx, hly, hdp, tx, ty, tM', u', rfl⟩ FF NN
        rw [hdp] at hR
        change Fr g' L' hh _ at FF
        change News g' L' hh _ at NN
        unfold M3 at FF
        (try dsimp only)
        (try k_fold)
        have hxl : (cl x).length = x.length := cl_len x
        have hyl : (cl y).length = y.length := cl_len y
        k_steps
        · exact hret _ (by rw [hR, dpL_far (by rw [hxl, hyl]; omega)]) _ _ _ (by assumption) (by assumption)
        unfold StopW
        rename (IsRange _ _ 0 _ 1 _ _ _) => lR'
        rename Fr _ _ _ _ => lF'
        rename News _ _ _ _ => lN'
        rename IntsAre _ _ => hI0
        rename (∀ p ∈ nx, _ < _) => hlt0
        rename (¬ (_ : Int) < _) => hnear
        rw [dpL_near (by rw [hxl, hyl]; omega), hxl] at hR
        refine with_led lN' fun D ys0 c0 e1 e2 e3 => ?_
        subst e1 e2 e3
        refine for_range (n := y.length) (by rfl) lF' lN' lR' (rng_small hly) (rng_size hly) (by rfl) (by rfl) (fun i m l => ∃ (rvs : List Value) (n : Nat) (row : List Int) (res : Int), l = (D, listOf rvs.toArray n) :: nx ∧ IntsAre rvs row ∧ row.length = x.length ∧ outL (cl x) mx ((cl y).drop i) i row res = levL (cl a) (cl b) mx ∧ ∃ (tr : Tok) (u : Str → Option Value), m = M4 res tr (.ref D) (.str y ty) (.str x tx) (.int mx tM') u) ?oJ ?oadr ?oturn ?odone
        case oJ => exact ⟨_, _, _, 0, rfl, hI0, by unfold row0; simp, hR.symm, M4_ex (by with_unfolding_all rfl) (by with_unfolding_all rfl) (by with_unfolding_all rfl) (by with_unfolding_all rfl) (by with_unfolding_all rfl)⟩
        case oadr =>
          rintro i m l ⟨rvs, n, row, res, rfl, _⟩
          rfl
        case odone =>
          clear lF' lN'
          rintro hh tkk m l ⟨rvs, n, row, res, rfl, hI, hrl, hout, tr, u, rfl⟩ FF NN
          change Fr g' L' hh _ at FF
          change News g' L' hh _ at NN
          unfold M4 at FF
          rw [← hyl, List.drop_length] at hout
          (try dsimp only)
          (try k_fold)
          k_steps
          rename Fr _ _ _ _ => fF
          rename News _ _ _ _ => fN
          exact hret _ hout _ _ _ fF fun p hp => fN p (List.mem_cons_of_mem _ hp)
        case oturn =>
          clear lF' lN'
          rintro i ti m l hh tkk own hown hi ⟨rvs, n, row, res, rfl, hI, hrl, hout, tr, u, rfl⟩ FF NN
          change Fr g' L' hh _ at FF
          change News g' L' hh _ at NN
          unfold M4 at FF
          simp only [Int.zero_add, List.cons_append] at FF NN
          obtain ⟨c, hc⟩ : ∃ c, (cl y)[i]? = some c := ⟨_, List.getElem?_eq_getElem (by rw [hyl]; exact hi)⟩
          have hLc : Lt c := hSy c (List.mem_of_getElem? hc)
          have hnl : ∀ p ∈ nx ++ own, p.1 ≠ D := fun p hp => (List.mem_append.mp hp).elim (fun q => Nat.ne_of_lt (hlt0 p q)) (fun q e => hown p q (e ▸ List.mem_cons_self ..))
          (try dsimp only)
          (try k_fold)
          have hdr : (cl y).drop i = c :: (cl y).drop (i + 1) := by rw [List.drop_eq_getElem_cons (by rw [hyl]; exact hi)]; congr 1; exact (List.getElem_eq_iff _).mpr hc
          rw [hdr] at hout
          have hout' : (if mx < (inL c (cl x) x.length 0 ⟨(i : Int) * 2, (i : Int) * 2, 9223372036854775807, row⟩).mn then mx + 1 else outL (cl x) mx ((cl y).drop (i + 1)) (i + 1) (inL c (cl x) x.length 0 ⟨(i : Int) * 2, (i : Int) * 2, 9223372036854775807, row⟩).row (inL c (cl x) x.length 0 ⟨(i : Int) * 2, (i : Int) * 2, 9223372036854775807, row⟩).res) = levL (cl a) (cl b) mx := by rw [← hout, outL, hxl]
          clear hout
          k_steps
          unfold StopW
          rename (IsRange _ _ 0 _ 1 _ _ _) => lR'
          rename Fr _ _ _ _ => lF'
          rename News _ _ _ _ => lN'
          refine for_range (n := x.length) (by rfl) lF' lN' lR' (rng_small hlx) (rng_size hlx) (by rfl) (by rfl) (fun i2 m l => ∃ (rvs : List Value) (n : Nat) (st : LSt), l = (D, listOf rvs.toArray n) :: (nx ++ own) ∧ IntsAre rvs st.row ∧ st.row.length = x.length ∧ inL c (cl x) (x.length - i2) i2 st = inL c (cl x) x.length 0 ⟨(i : Int) * 2, (i : Int) * 2, 9223372036854775807, row⟩ ∧ ∃ (tn td tc tr : Tok) (u : Str → Option Value), m = M5 st.mn tn st.dist td (.str ⟨#[c]⟩ tc) st.res tr (.ref D) (.str y ty) (.str x tx) (.int mx tM') u) ?iJ ?iadr ?iturn ?idone
          case iJ => exact ⟨_, _, ⟨(i : Int) * 2, (i : Int) * 2, 9223372036854775807, row⟩, rfl, hI, hrl, rfl, M5_ex' (by with_unfolding_all rfl) (by with_unfolding_all rfl) (by with_unfolding_all rfl) (by with_unfolding_all rfl) (by with_unfolding_all rfl) (by with_unfolding_all rfl) (by with_unfolding_all rfl) (by with_unfolding_all rfl)⟩
          case iadr =>
            rintro i2 m l ⟨rvs, n, st, rfl, _⟩
            rfl
          case idone =>
            clear lF' lN' lR'
            rintro hh2 tkk2 m l ⟨rvs2, n2, st, rfl, hI2, hrl2, hin, tn, td, tc, tr2, u2, rfl⟩ FF2 NN2
            change Fr g' L' hh2 _ at FF2
            change News g' L' hh2 _ at NN2
            rw [Nat.sub_self] at hin
            have hin' : st = inL c (cl x) x.length 0 ⟨(i : Int) * 2, (i : Int) * 2, 9223372036854775807, row⟩ := hin
            rw [← hin'] at hout'
            unfold M5 M4 at FF2
            (try dsimp only)
            (try k_fold)
            k_steps
            · rename ((_ : Int) < _) => hmn
              rw [if_pos hmn] at hout'
              rename Fr _ _ _ _ => fF
              rename News _ _ _ _ => fN
              dsimp only [FlowEnd]
              k_steps
              rename Fr _ _ _ _ => fF2
              rename News _ _ _ _ => fN2
              exact hret _ hout' _ _ _ fF2 fun p hp => fN2 p (List.mem_cons_of_mem _ (List.mem_append_left _ hp))
            · rename (¬ (_ : Int) < _) => hmn
              rw [if_neg hmn] at hout'
              rename Fr _ _ _ _ => fF
              rename News _ _ _ _ => fN
              exact ⟨_, _, _, (D, _) :: nx, rfl, fF, fN, rvs2, n2, st.row, st.res, rfl, hI2, hrl2, hout', M4_ex (by with_unfolding_all rfl) (by with_unfolding_all rfl) (by with_unfolding_all rfl) (by with_unfolding_all rfl) (by with_unfolding_all rfl)⟩
          case iturn =>
            clear lF' lN' lR'
            rintro i2 ti2 m l hh2 tkk2 own2 hown2 hi2 ⟨rvs2, n2, st, rfl, hI2, hrl2, hin, tn, td, tc, tr2, u2, rfl⟩ FF2 NN2
            change Fr g' L' hh2 _ at FF2
            change News g' L' hh2 _ at NN2
            unfold M5 M4 at FF2
            simp only [Int.zero_add, List.cons_append] at FF2 NN2
            obtain ⟨c2, hc2⟩ : ∃ c2, (cl x)[i2]? = some c2 := ⟨_, List.getElem?_eq_getElem (by rw [hxl]; exact hi2)⟩
            have hLc2 : Lt c2 := hSx c2 (List.mem_of_getElem? hc2)
            have hnl2 : ∀ p ∈ nx ++ own ++ own2, p.1 ≠ D := fun p hp => (List.mem_append.mp hp).elim (fun q => hnl p q) (fun q e => hown2 p q (e ▸ List.mem_cons_self ..))
            have hrow1 : i2 < st.row.length := by rw [hrl2]; exact hi2
            have hrow7 : st.row.length ≤ 7 := by rw [hrl2]; exact hlx
            (try dsimp only)
            (try k_fold)
            rw [inL_step hi2] at hin
            k_steps
            · rename ((_ : Int) < _) => hmn
              rename IntsAre _ _ => hI3
              rename Fr _ _ _ _ => fF
              rename News _ _ _ _ => fN
              rw [inStep_lo hc2 hmn] at hin
              exact ⟨_, _, _, (D, _) :: (nx ++ own), rfl, fF, fN, _, n2, _, rfl, hI3, by rw [List.length_set, hrl2], hin, M5_ex' (by with_unfolding_all rfl) (by with_unfolding_all rfl) (by with_unfolding_all rfl) (by with_unfolding_all rfl) (by with_unfolding_all rfl) (by with_unfolding_all rfl) (by with_unfolding_all rfl) (by with_unfolding_all rfl)⟩
            · rename (¬ (_ : Int) < _) => hmn
              rename IntsAre _ _ => hI3
              rename Fr _ _ _ _ => fF
              rename News _ _ _ _ => fN
              rw [inStep_hi hc2 hmn] at hin
              exact ⟨_, _, _, (D, _) :: (nx ++ own), rfl, fF, fN, _, n2, _, rfl, hI3, by rw [List.length_set, hrl2], hin, M5_ex' (by with_unfolding_all rfl) (by with_unfolding_all rfl) (by with_unfolding_all rfl) (by with_unfolding_all rfl) (by with_unfolding_all rfl) (by with_unfolding_all rfl) (by with_unfolding_all rfl) (by with_unfolding_all rfl)⟩
end Mine
end
section
open PySem PySem.W PyProof.Rows PyProof.Rows.LCg
set_option maxHeartbeats 8000000
set_option pp.deepTerms false
set_option pp.maxSteps 3000
namespace Mine

abbrev sgn (c : Nat) : Str := ⟨#[c]⟩
noncomputable def thereL (w : List Nat) : List Nat := [65, 66, 97, 98].filter (fun c => decide (c ∈ w))
theorem strs_snoc {vs : List Value} {ys : List Str} {y : Str} {t : Tok} (h : StrsAre vs ys) : StrsAre (vs ++ [.str y t]) (ys ++ [y]) := by
  induction h with
  | nil => exact .cons _ _ .nil
  | cons y' t' _ ih => exact .cons _ _ ih
theorem len_led {prog : Program} {w : World} {A : Around} {E : Value → Shared → Prop} {s : Shared} {h₀ : Heap} {L D : Addr} {rest : List (Addr × Obj)} {ys : List Value} {Q : Value → Shared → Prop} (N : News h₀ L s.heap ((D, lst ys) :: rest)) (hfit : ys.length ≤ 7)
    (h : ∀ t, Q (.int (ys.length : Int) t) { s with toks := s.toks + 1 + 1 }) : wpAny (model prog w) A (call (.builtin "len") [.ref D]) Q E s := by
  have hl : s.heap.IsList D ys.toArray := ⟨_, (N _ (List.mem_cons_self ..)).1, rfl, _, rfl⟩
  refine len_list hl ?_ ?_
  · rw [List.size_toArray]; omega
  · rw [List.size_toArray]; exact h _
theorem rng1_small {n : Nat} (h : n ≤ 4) : Builtin.Range.small 1 (n : Int) 1 = true := by
  have : ∀ i : Fin 5, Builtin.Range.small 1 (i.val : Int) 1 = true := by decide
  exact this ⟨n, Nat.lt_succ_of_le h⟩
theorem rng1_size {n : Nat} (h : n ≤ 4) : Builtin.Range.rangeSize 1 (n : Int) 1 = ((n - 1 : Nat) : Int) := by
  have : ∀ i : Fin 5, Builtin.Range.rangeSize 1 (i.val : Int) 1 = ((i.val - 1 : Nat) : Int) := by decide
  exact this ⟨n, Nat.lt_succ_of_le h⟩
theorem there_lt {w : List Nat} {c : Nat} (h : c ∈ thereL w) : Lt c := by
  have h' : c ∈ ([65, 66, 97, 98] : List Nat).filter (fun c => decide (c ∈ w)) := h
  have h2 : c ∈ ([65, 66, 97, 98] : List Nat) := (List.mem_filter.mp h').1
  simp only [List.mem_cons, List.not_mem_nil, or_false] at h2
  exact h2
noncomputable def M98 (there turned : Value) (u : Str → Option Value) : Str → Option Value := fun z => if z = Str.ofString "there" then some there else if z = Str.ofString "turned" then some turned else u z
theorem M98_ex {m : Str → Option Value} {there : Value} {turned : Str} {tt : Tok} (h1 : m (Str.ofString "there") = some there) (h2 : m (Str.ofString "turned") = some (.str turned tt)) : ∃ (tt : Tok) (u : Str → Option Value), m = M98 there (.str turned tt) u := by
  refine ⟨tt, m, ?_⟩
  funext z
  unfold M98
  by_cases q3 : z = Str.ofString "there"
  · rw [if_pos q3, q3, h1]
  by_cases q4 : z = Str.ofString "turned"
  · rw [if_neg q3, if_pos q4, q4, h2]
  · rw [if_neg q3, if_neg q4]
theorem strs_at : ∀ {vs : List Value} {l : List Nat} {j p : Nat}, StrsAre vs (l.map sgn) → l[j]? = some p → ∃ t, vs[j]? = some (.str (sgn p) t)
  | _, [], _, _, _, h => by simp at h
  | _, x :: l, j, p, hs, h => by
    rw [List.map_cons] at hs
    cases hs with
    | cons _ t hs =>
      cases j with
      | zero => simp at h; subst h; exact ⟨t, rfl⟩
      | succ j =>
        obtain ⟨t', h'⟩ := strs_at (j := j) hs h
        exact ⟨t', h'⟩
theorem get_there {prog : Program} {w : World} {A : Around} {E : Value → Shared → Prop} {s : Shared} {h₀ : Heap} {L D : Addr} {rest : List (Addr × Obj)} {ys : List Value} {l : List Nat} {value slice : PySem.Expr} {j p : Nat} {k : Int} {u : Tok} {Q : Value → Shared → Prop} (N : News h₀ L s.heap ((D, lst ys) :: rest)) (hS : StrsAre ys (l.map sgn)) (hp : l[j]? = some p) (hk : k = (j : Int)) (hl : ys.length ≤ 7) (h : ∀ t, Q (.str ⟨#[p]⟩ t) s)
    (hs : subscripted slice false (.ref D) (.int k u) = operate [.ref D, .int k u] (getItem (.ref D) (.int k u))) :
    wpAny (model prog w) A (subscriptTail value slice (.ref D) (.int k u)) Q E s := by
  obtain ⟨t, ht⟩ := strs_at hS hp
  have hj : j < ys.length := (List.getElem?_eq_some_iff.mp ht).1
  subst hk
  have hl' : s.heap.IsList D ys.toArray := ⟨_, (N _ (List.mem_cons_self ..)).1, rfl, _, rfl⟩
  exact item_made hl' (by omega) (by omega) (v := .str ⟨#[p]⟩ t) (by rw [Int.toNat_natCast]; simpa using ht) (h t) hs
theorem add_two {prog : Program} {w : World} {A : Around} {E : Value → Shared → Prop} {s : Shared} {p q : Nat} {t u : Tok} {Q : Value → Shared → Prop} (h : ∀ t tk, Q (.str ⟨#[p, q]⟩ t) { s with toks := tk }) : wpAny (model prog w) A (binaryOp .Add (.str ⟨#[p]⟩ t) (.str ⟨#[q]⟩ u)) Q E s :=
  add_str (fun t tk => h t tk) (by rw [PySem.sizeLine_eq]; show 1 + 1 ≤ _; omega)
theorem c98 (w : World) (mean : ExcName → Option Value) (mg mb : Str → Option Value) (word turned : Str) (ta tb : Tok) (hw7 : word.length = 7) (ht7 : turned.length = 7) (hwS : Signs word) (htS : Signs turned)
    (hK : ∀ k p q, (thereL (cl word))[k + 1]? = some p → (thereL (cl word))[k]? = some q → levL (cl word) (cl ⟨#[p, q]⟩) 14 = 10 + (leastT p q (cl word)).2 ∧ 10 ≤ levL (cl ⟨#[p, q]⟩) (cl turned) 10 ∧ (levL (cl ⟨#[p, q]⟩) (cl turned) 10 = 10 ↔ 10 + (leastT p q (cl word)).2 = 10)) :
  CL w mean mg mb 98 6 60 [.str word ta, .str turned tb] (fun _ => .bool true) := by
  dsimp only [CL]; w_top off; k_with_none; k_fill
  k_with "eval ListComp" => (k_here; k_dflt (refine ListComp_J (hs := by intro _; rfl) (_F₀ := by k_asm) (by with_unfolding_all rfl) (by decide) (by rfl) (by decide) ?_); k_whole)
  k_with "exec Assign cons ListComp" => (k_here; k_dflt (refine Assign_ListComp_J (hs := by intro _; rfl) (_F₀ := by k_asm) (by rfl) (by with_unfolding_all rfl) (by with_unfolding_all rfl) (by decide) (by rfl) (by decide) (by rfl) (by rfl) ?_); k_whole)
  k_with "exec For Name Call cons nil" => (k_here; (rename Fr _ _ _ _ => lFqw2); (with_unfolding_all refine' For_J (hs := by intro _; rfl) (hE := by passes_own) lFqw2 ?_); k_whole)
  k_with "pyIter ref" => (k_here; refine stopW ?_)
  k_with "pyIter str" => (k_here; refine stopW ?_)
  k_with "call builtin:len" => (k_here; (rename News _ _ _ _ => lNqw5); k_dflt (refine len_led lNqw5 (by assumption) ?_); k_whole; intro _)
  k_with "subscriptTail" => (k_here; (rename News _ _ _ _ => lNqw6); (with_reducible show wpAny _ _ (subscriptTail _ _ (Value.ref _) (Value.int _ _)) _ _ _); first | ((rename (_[_ + 1]? = some _) => hp9w6); k_dflt (refine get_there (hs := by with_unfolding_all rfl) lNqw6 (by assumption) hp9w6 (by omega) (by assumption) ?_); k_whole; intro _) | ((rename (_[_]? = some _) => hp9w6); k_dflt (refine get_there (hs := by with_unfolding_all rfl) lNqw6 (by assumption) hp9w6 (by omega) (by assumption) ?_); k_whole; intro _))
  k_with "binaryOp Add str str" => (k_here; (refine add_two ?_); k_whole; intro _ _)
  k_with "call ref" => (k_here; k_dflt (refine' c50 _ _ _ _ _ _ _ _ _ _ (by assumption) (by assumption) (by assumption) (by assumption) _ _ _ _ _ _ _ _ _ _ _ _ _ _ _ _ _ _ (by k_asm) (by k_asm) (by k_asm) (by k_asm) (by k_asm) (by first | exact rfl | assumption) (by ktr_room) (by ktr_units) ?_; k_whole); intro t9w8 h9w8 tk9w8 F9w8 N9w8; (try dsimp only); (try k_fold))
  k_with "call ref" => (k_here; k_dflt (refine' c93 _ _ _ _ _ _ _ _ _ (by assumption) (by assumption) (by assumption) _ _ _ _ _ _ _ _ _ _ _ _ _ _ _ _ _ _ (by k_asm) (by k_asm) (by k_asm) (by k_asm) (by k_asm) (by first | exact rfl | assumption) (by ktr_room) (by ktr_units) ?_; k_whole); intro t9w9 h9w9 tk9w9 F9w9 N9w9; (try dsimp only); (try k_fold))
  intro news dp un gd cn cs a0 ccd cl0 outer A₀ base h₀ L m s Q E hB hF0 hX hN hT hk hd hu hret
  refine wpAny_call ?_
  k_dflt (refine' code_defC (binds := [(Str.ofString "word", .str word ta), (Str.ofString "turned", .str turned tb)]) ?k1 ?k2 ?k3 ?k4 ?k5 ?kA ?kF ?kK ?k6 ?k7 ?k8 ?k9 ?kB ?kD ?_ ?c2 ?c3 ?c4; (case kA => exact rfl); (case kF => exact rfl); (case kK => assumption); (case k1 => k_asm); (case k2 => k_asm); (case k3 => k_asm); (case k4 => k_asm); (case k5 => k_asm); (case k6 => k_is); (case k7 => k_is); (case k8 => ktr_room); (case k9 => exact BindsTo.of_eq rfl); (case kB => exact rfl); (case kD => decide +kernel); (case c2 => exact rfl); (case c3 => exact rfl); (case c4 => exact rfl); k_whole; intro g' L' h' tk' cells' FG' F' N' Y' B' X' T' l1; (try k_lt l1))
  obtain ⟨o0, rfl, ho0⟩ := CellsAre.one Y'
  clear Y'
  replace F' : Fr g' L' h' (fun y => if y = Str.ofString "turned" then some (.str turned tb) else none) := by with_unfolding_all exact F'
  replace ho0 : o0.data = .cell (some (.str word ta)) := by with_unfolding_all exact ho0
  (try simp only [List.cons_append, List.nil_append] at N')
  (try dsimp only)
  (try k_lift B')
  (try k_fold)
  k_steps
  unfold StopW
  rename Fr _ _ _ _ => lF'
  rename News _ _ _ _ => lN'
  refine comp_str (by rfl) lF' lN' (by rfl) (by rfl) (fun i ys => StrsAre ys ((([65, 66, 97, 98].take i).filter (fun c => decide (c ∈ cl word))).map sgn)) .nil (fun i ys hi hy => ?len) ?cturn ?cdone
  case len =>
    rw [hy.length, List.length_map, PySem.sizeLine_eq]
    have := List.length_filter_le (fun c => decide (c ∈ cl word)) ([65, 66, 97, 98].take i)
    have := List.length_take_le i [65, 66, 97, 98]
    simp at *
    omega
  case cturn =>
    unfold JTurn
    rintro C D i2 ys m₂ oC h2 tk2 own2 E2 hi2 hJ2 ⟨c2, t2, hc2, hx2⟩ hoC FF2 NN2
    have hc2' : [65, 66, 97, 98][i2]? = some c2 := hc2
    have hs2 : [65, 66, 97, 98].take (i2 + 1) = [65, 66, 97, 98].take i2 ++ [c2] := by rw [List.take_add_one, hc2']; rfl
    refine wpAny_tests_one ?_
    (try simp only [List.cons_append] at NN2)
    k_steps
    · rename (List.isEmpty _ = true) => hem
      rw [empty_one] at hem
      have hni : c2 ∉ cl word := by simpa using hem
      refine ⟨_, _, ys, oC, m₂, rfl, FF2, NN2, hoC, trivial, ?_⟩
      show StrsAre _ (List.map sgn (List.filter (fun c => decide (c ∈ cl word)) (List.take (i2 + 1) [65, 66, 97, 98])))
      rw [hs2, List.filter_append, List.filter_cons_of_neg (by simpa using hni), List.filter_nil, List.append_nil]
      exact hJ2
    · rename (List.isEmpty _ = false) => hem
      rw [empty_one] at hem
      have hni : c2 ∈ cl word := by simpa using hem
      refine ⟨_, _, oC, m₂, rfl, FF2, NN2, hoC, trivial, ?_⟩
      show StrsAre _ (List.map sgn (List.filter (fun c => decide (c ∈ cl word)) (List.take (i2 + 1) [65, 66, 97, 98])))
      rw [hs2, List.filter_append, List.filter_cons_of_pos (by simpa using hni), List.filter_nil, List.map_append]
      exact strs_snoc hJ2
  case cdone =>
    intro g D ys hy hlt
    unfold FinAJ
    intro h2 tk2 FF2 NN2 hlt2
    clear lF' lN'
    have hy' : StrsAre ys ((thereL (cl word)).map sgn) := hy
    have hyl : ys.length = (thereL (cl word)).length := by rw [hy'.length, List.length_map]
    have hn4 : (thereL (cl word)).length ≤ 4 := by
      have := List.length_filter_le (fun c => decide (c ∈ cl word)) [65, 66, 97, 98]
      exact this
    have hy7 : ys.length ≤ 7 := by omega
    (try dsimp only)
    (try k_fold)
    k_steps
    unfold StopW
    rename (IsRange _ _ 1 _ 1 _ _ _) => lR'
    rename Fr _ _ _ _ => lF'
    rename News _ _ _ _ => lN'
    have hw7' : word.length ≤ 7 := by omega
    have ht7' : turned.length ≤ 7 := by omega
    refine for_range (n := ys.length - 1) (by rfl) lF' lN' lR' (rng1_small (by omega)) (rng1_size (by omega)) (by rfl) (by rfl) (fun i m l => l = (D, lst ys) :: (L' + 1, o0) :: news ∧ ∃ (tt : Tok) (u : Str → Option Value), m = M98 (.ref D) (.str turned tt) u) ⟨rfl, M98_ex (by with_unfolding_all rfl) (by with_unfolding_all rfl)⟩ ?adr ?turn ?done
    case adr =>
      rintro i m l ⟨rfl, _⟩
      rfl
    case done =>
      clear lF' lN'
      rintro hh tkk m l ⟨rfl, tt, u, rfl⟩ FF NN
      change Fr g' L' hh _ at FF
      change News g' L' hh _ at NN
      unfold M98 at FF
      (try dsimp only)
      (try k_fold)
      k_steps
      rename Fr _ _ _ _ => fF
      rename News _ _ _ _ => fN
      exact hret tkk _ _ fF fun p hp => fN p (List.mem_cons_of_mem _ (List.mem_cons_of_mem _ hp))
    case turn =>
      clear lF' lN'
      rintro i ti m l hh tkk own hown hi ⟨rfl, tt, u, rfl⟩ FF NN
      change Fr g' L' hh _ at FF
      change News g' L' hh _ at NN
      unfold M98 at FF
      simp only [List.cons_append] at NN
      obtain ⟨p, hp⟩ : ∃ p, (thereL (cl word))[i + 1]? = some p := ⟨_, List.getElem?_eq_getElem (by omega)⟩
      obtain ⟨q, hq⟩ : ∃ q, (thereL (cl word))[i]? = some q := ⟨_, List.getElem?_eq_getElem (by omega)⟩
      have hLp : Lt p := there_lt (List.mem_of_getElem? hp)
      have hLq : Lt q := there_lt (List.mem_of_getElem? hq)
      have hS2 : Signs ⟨#[p, q]⟩ := by
        intro c hc
        have hc' : c ∈ [p, q] := hc
        rcases List.mem_cons.mp hc' with rfl | hc'
        · exact hLp
        · rw [List.mem_singleton.mp hc']; exact hLq
      have h27 : (⟨#[p, q]⟩ : Str).length ≤ 7 := by show 2 ≤ 7; omega
      obtain ⟨hk1, hk2, hk3⟩ := hK i p q hp hq
      (try dsimp only)
      (try k_fold)
      k_steps
      · exact absurd hk1 (by assumption)
      · rename (bne _ _ = true) => hb
        exfalso
        rw [hk1] at hb
        by_cases q1 : levL (cl ⟨#[p, q]⟩) (cl turned) 10 = 10
        · have q2 := hk3.mp q1
          rw [q1, q2] at hb
          exact absurd hb (by decide)
        · have q2 : ¬ 10 + (leastT p q (cl word)).2 = 10 := fun z => q1 (hk3.mpr z)
          rw [beq_false_of_ne q1, beq_false_of_ne q2] at hb
          exact absurd hb (by decide)
      · rename Fr _ _ _ _ => fF
        rename News _ _ _ _ => fN
        exact ⟨_, _, _, (D, lst ys) :: (L' + 1, o0) :: news, rfl, fF, fN, rfl, M98_ex (by with_unfolding_all rfl) (by with_unfolding_all rfl)⟩
end Mine
end
section
open PySem PySem.W PyProof.Rows PySem.Calls PySem.Spec PyProof.V PyProof.Rows.LCg
set_option maxHeartbeats 2000000
namespace Mine
theorem FWalk.pair {prog : Program} {w : World} {A : Around} {h₀ : Heap} {env : Env} {x y : Str} {px py pt : Pos} {k1 : Nat} {I : Addr} {wr fp : List Addr} {n : Nat} {adr : List Addr} {Pt : Nat → Array Value → Prop} {St : Nat → Heap → Prop} {Mid : Nat → Addr → Heap → Prop} {P : Nat → Value → Value → Prop}
    (W : WalksT prog w A I fp wr n Pt St Mid) (hh : A.handled = none) (hP : ∀ i vs, Pt i vs → ∃ a b, vs = #[a, b] ∧ P i a b) (hx : env.kindOf x = some .local) (hy : env.kindOf y = some .local) (hp : (env.scope.kind == .class || (env.scope.kind == .module && env.locals != env.globals)) = false)
    (hL : env.locals ∉ fp) (hadr : ∀ a ∈ adr, a ∉ wr) (hw₀ : ∀ b ∈ wr, h₀.get? b = none) :
    FWalk prog w A h₀ env (.Tuple [.Name x px, .Name y py] k1 pt) (.ref I) wr fp n adr (fun _ => True) (fun i m nx m₃ nx₃ => ∃ a b, P i a b ∧ m₃ = (fun z => if z = y then some b else if z = x then some a else m z) ∧ nx₃ = nx) St where
  sub := W.sub
  frame := W.frame
  item := fun i s m nx Q E hi hst F N ha _ hQ => by
    refine W.item i _ _ _ hi hst fun T vals h₂ tk₂ hPt hTs hT hmid hk₂ => ⟨_, rfl, ?_⟩
    obtain ⟨a, b, rfl, hab⟩ := hP _ _ hPt
    refine W.go _ _ _ i T _ _ _ hmid fun h₃ hst₃ hk₃ => ?_
    have hTw := W.apart _ _ _ hmid
    obtain ⟨oT, heT, hcT, ntT, hdT⟩ := hT
    have hT₃ : IsTup h₃ T #[a, b] := ⟨oT, hk₃ _ _ hTw heT, hcT, ntT, hdT⟩
    have hLw : env.locals ∉ wr := fun q => hL (W.sub _ q)
    refine assign_Tuple_tuple hh hT₃ rfl rfl fun h₅ he => ?_
    have he' : ∀ b o, h₃.get? b = some o → h₅.get? b = some o := fun b o e => he b o (Nat.ne_of_lt (Heap.lt_size e)) e
    have all : ∀ b o, b ∉ wr → s.heap.get? b = some o → h₅.get? b = some o := fun b o hb e => he' b o (hk₃ b o hb (hk₂ b o hb e))
    have F₅ : Fr h₀ env.locals h₅ m := ⟨F.ns.at' fun o e => all _ o hLw e, fun b o e => all b o (fun q => by rw [hw₀ b q] at e; cases e) (F.keep b o e), F.above⟩
    have N₅ : News h₀ env.locals h₅ nx := fun p hp => ⟨all _ _ (hadr _ (ha ▸ List.mem_map_of_mem (f := (·.1)) hp)) (N p hp).1, (N p hp).2⟩
    refine assignInOrder_cons (wpAny_assign_Name (wpAny_storeName_local hx F₅.ns (fun h₆ hn₆ hs₆ => ?_) hp))
    have F₆ := F₅.set hn₆ hs₆
    have N₆ := N₅.set hs₆
    refine assignInOrder_cons (wpAny_assign_Name (wpAny_storeName_local hy F₆.ns (fun h₇ hn₇ hs₇ => ?_) hp))
    refine assignInOrder_nil ?_
    exact hQ h₇ _ _ nx (W.frame _ _ _ hst₃ fun b hb o e => hs₇.extBut b o (fun q => hL (q ▸ hb)) (hs₆.extBut b o (fun q => hL (q ▸ hb)) (he' b o e))) (F₆.set hn₇ hs₇) (N₆.set hs₇) ha ⟨a, b, hab, rfl, rfl⟩
  done := fun s Q E hst hQ => W.done _ _ _ hst fun h' tk hk => ⟨rfl, hQ h' tk hk⟩
section
variable {prog : Program} {w : World} {A : Around} {s : Shared} {h₀ : Heap} {env : Env} {body orelse : List Stmt} {E : Value → Shared → Prop} {Q : Flow → Shared → Prop}
theorem for_enum {l : Addr} {items : Array Value} {nk nv : Str} {pk pv pt : Pos} {k1 : Nat} {m₀ : Str → Option Value} {led : List (Addr × Obj)} (hh : A.handled = none) (F : Fr h₀ env.locals s.heap m₀) (N : News h₀ env.locals s.heap led) (hl : h₀.IsList l items)
    (hx : env.kindOf nk = some .local) (hy : env.kindOf nv = some .local) (hp : (env.scope.kind == .class || (env.scope.kind == .module && env.locals != env.globals)) = false)
    (J : Nat → (Str → Option Value) → List (Addr × Obj) → Prop) (hJ : J 0 m₀ led) (hadr : ∀ i m l, J i m l → l.map (·.1) = led.map (·.1))
    (turn : ∀ i v t m l h tk own, (∀ p ∈ own, p.1 ∉ led.map (·.1)) → items[i]? = some v → J i m l → Fr h₀ env.locals h (fun z => if z = nv then some v else if z = nk then some (.int (i : Int) t) else m z) → News h₀ env.locals h (l ++ own) →
      wpAny (model prog w) A (execs body env) (FlowEnd h₀ env.locals own (J (i + 1)) Q s) E { s with heap := h, toks := tk })
    (done : ∀ h tk m l, J items.size m l → Fr h₀ env.locals h m → News h₀ env.locals h l → wpAny (model prog w) A (execs orelse env) (fun f s₃ => Q f s₃) E { s with heap := h, toks := tk }) :
    wpAny (model prog w) A (call (.type "enumerate") [.ref l]) (fun xv s₁ => wpAny (model prog w) A (pyIter xv) (fun it s₂ => ForAt prog w A h₀ env (.Tuple [.Name nk pk, .Name nv pv] k1 pt) body orelse Q E it s₂) E s₁) E s := by
  have hLs : env.locals < s.heap.objs.size := F.ns.lt
  have hab : h₀.objs.size ≤ env.locals := F.above
  have hlt : l < h₀.objs.size := by obtain ⟨_, e, _⟩ := hl; exact Heap.lt_size e
  have hls : s.heap.IsList l items := hl.at fun o e => F.keep l o e
  have hl2 : l < s.heap.objs.size := Nat.lt_trans (Nat.lt_of_lt_of_le hlt hab) hLs
  refine call_enumerate_list hls fun h' he hit hsz hkp => ?_
  refine wpAny_pyIter_enum (i := 0) he ?_
  have F' : Fr h₀ env.locals h' m₀ := ⟨F.ns.keeps hkp, fun b o e => hkp b o (F.keep b o e), F.above⟩
  have N' : News h₀ env.locals h' led := fun p hp => ⟨hkp _ _ (N p hp).1, (N p hp).2⟩
  have W := WalksT.enumerate (prog := prog) (w := w) hh (s.heap.objs.size + 1) s.heap.objs.size l (Nat.succ_ne_self _) (Nat.ne_of_lt (Nat.lt_succ_of_lt hl2)) (Nat.ne_of_lt hl2) items
  have hLw : env.locals ∉ [s.heap.objs.size + 1, s.heap.objs.size] := fun hm => by
    rcases List.mem_cons.mp hm with e | hm
    · exact Nat.ne_of_lt (Nat.lt_succ_of_lt hLs) e
    · exact Nat.ne_of_lt hLs (List.mem_singleton.mp hm)
  have hw₀ : ∀ b ∈ [s.heap.objs.size + 1, s.heap.objs.size], h₀.get? b = none := fun b hb => by
    rcases List.mem_cons.mp hb with rfl | hb
    · exact Heap.get?_none_of_le (Nat.le_trans hab (Nat.le_of_lt (Nat.lt_succ_of_lt hLs)))
    · rw [List.mem_singleton.mp hb]; exact Heap.get?_none_of_le (Nat.le_trans hab (Nat.le_of_lt hLs))
  have hA : ∀ a ∈ led.map (·.1), a ∉ [s.heap.objs.size + 1, s.heap.objs.size] := fun a ha hm => by
    obtain ⟨p, hp, rfl⟩ := List.mem_map.mp ha
    have hp1 : p.1 < s.heap.objs.size := Heap.lt_size (N p hp).1
    rcases List.mem_cons.mp hm with e | hm
    · exact Nat.ne_of_lt (Nat.lt_succ_of_lt hp1) e
    · exact Nat.ne_of_lt hp1 (List.mem_singleton.mp hm)
  refine ⟨[s.heap.objs.size + 1, s.heap.objs.size], [s.heap.objs.size + 1, s.heap.objs.size, l], items.size, led.map (·.1), _, _, _, J, m₀, led, [], FWalk.pair (P := fun i a b => ∃ t, items[i]? = some b ∧ a = .int (i : Int) t) W hh (fun i vs hv => by obtain ⟨t, x, hx, rfl⟩ := hv; exact ⟨_, _, rfl, t, hx, rfl⟩) hx hy hp ?_ hA hw₀, hLw, hw₀, hA, ?_, ⟨⟨_, he⟩, hit, hls.at fun o e => hkp l o e⟩, F', N', hJ,
    fun i m l h => ⟨hadr i m l h, trivial, fun p hp => by cases hp⟩, fun i m nx m₃ nx₃ _ _ p hp => (by cases hp), ?_, ?_⟩
  · intro hm
    rcases List.mem_cons.mp hm with e | hm
    · exact Nat.ne_of_lt (Nat.lt_succ_of_lt hLs) e
    · rcases List.mem_cons.mp hm with e | hm
      · exact Nat.ne_of_lt hLs e
      · exact Nat.ne_of_gt (Nat.lt_of_lt_of_le hlt hab) (List.mem_singleton.mp hm)
  · intro b hb
    rcases List.mem_cons.mp hb with rfl | hb
    · exact .inl (List.mem_cons_self ..)
    · rcases List.mem_cons.mp hb with rfl | hb
      · exact .inl (List.mem_cons_of_mem _ (List.mem_cons_self ..))
      · rw [List.mem_singleton.mp hb]
        obtain ⟨o, e, _⟩ := hl
        exact .inr (.inl ⟨o, e⟩)
  · rintro i m l₁ m₁ l₂ h tk own hi hown hJi ⟨a, b, ⟨t, hb, rfl⟩, rfl, rfl⟩ F₁ N₁
    exact turn i b t m _ h tk own hown hb hJi F₁ N₁
  · exact fun h tk m l hJn F₁ N₁ => done h tk m l hJn F₁ N₁
end
end Mine
end
section
open PySem PySem.W PyProof.Rows PyProof.Rows.LCg
set_option maxHeartbeats 8000000
set_option pp.deepTerms false
set_option pp.maxSteps 3000
namespace Mine

theorem len_gr {prog : Program} {w : World} {A : Around} {E : Value → Shared → Prop} {s : Shared} {h₀ : Heap} {L l : Addr} {m : Str → Option Value} {vs : List Value} {Q : Value → Shared → Prop} (F : Fr h₀ L s.heap m) (hl : h₀.IsList l vs.toArray) (hfit : vs.length ≤ 63)
    (h : ∀ t, Q (.int (vs.length : Int) t) { s with toks := s.toks + 1 + 1 }) : wpAny (model prog w) A (call (.builtin "len") [.ref l]) Q E s := by
  refine len_list (hl.at fun o e => F.keep l o e) ?_ ?_
  · rw [List.size_toArray]; omega
  · rw [List.size_toArray]; exact h _
theorem set_any {prog : Program} {w : World} {A : Around} {E : Value → Shared → Prop} {s : Shared} {h₀ : Heap} {L : Addr} {m : Str → Option Value} {rest : List (Addr × Obj)} {D : Addr} {vs : List Value} {ns : List Int} {n : Nat} {k x : Int} {t u : Tok} {Q : Unit → Shared → Prop} (F : Fr h₀ L s.heap m) (N : News h₀ L s.heap ((D, listOf vs.toArray n) :: rest)) (hne : ∀ p ∈ rest, p.1 ≠ D) (hi : IntsAre vs ns) (hl : ns.length = 9) (h0 : 0 ≤ k) (h1 : k < 9)
    (h : ∀ h' vs' ns', Fr h₀ L h' m → News h₀ L h' ((D, listOf (List.toArray vs') n) :: rest) → IntsAre vs' ns' → ns'.length = 9 → Q () { s with heap := h' }) :
    wpAny (model prog w) A (setItem (.ref D) (.int k t) (.int x u)) Q E s :=
  ksa_set F N (Upd.head hne) hi h0 (by omega) (by omega) fun h' F' N' hI hL _ => h h' _ _ F' N' hI (by rw [hL, hl])
theorem seeds_ex {m : Str → Option Value} {D : Addr} (h : m (Str.ofString "seeds") = some (.ref D)) : ∃ (u : Str → Option Value), m = fun z => if z = Str.ofString "seeds" then some (.ref D) else u z := by
  refine ⟨m, ?_⟩
  funext z
  by_cases q : z = Str.ofString "seeds"
  · rw [if_pos q, q, h]
  · rw [if_neg q]
theorem c57 (w : World) (mean : ExcName → Option Value) (mg mb : Str → Option Value) (ax : Addr) (vs : List Value) (ns : List Int) (hI : IntsAre vs ns) (hn : ns.length ≤ 63) :
    ∀ (news : List (Addr × Obj)) (dp un : Nat) (gd : Option (List Code)) (cn : Str) (cs : Scope) (a0 : Addr) (ccd : Value) (cl0 : List (Str × Addr)) (outer : List Env) (A₀ : Around) (base h₀ : Heap) (L : Addr) (m : Str → Option Value) (s : Shared) (Q E : Value → Shared → Prop),
    Below A₀ base outer h₀ → Fr h₀ L s.heap m → (hd.heap_1 w.params).In h₀ → News h₀ L s.heap news →
    Top hd.view_1 (looseW hd.view_1 [Str.ofString "COMPILER_FLAG_NAMES"]) mean mg mb h₀ → cs.kind = .function → dp + 1 < recursionLimit → un + 20 < cLine → h₀.IsList ax vs.toArray →
    (∀ (D : Addr) (us : List Value) (c : Nat) (ms : List Int) (h' : Heap) (tk' : Nat), Fr h₀ L h' m → News h₀ L h' ((D, listOf us.toArray c) :: news) → (∀ p ∈ news, p.1 < D) → IntsAre us ms → ms.length = 9 → Q (.ref D) { s with heap := h', toks := tk' }) →
      wpAny (model PySem.Challenge.rw_wn0054_01.row.prog w) (ktrTop dp un gd cn cs L a0 ccd cl0 outer) (call (.ref 57) [.ref ax]) Q E s := by
  w_top off; k_with_none; k_fill
  k_with "eval ListComp" => (k_here; k_dflt (refine ListComp_J (hs := by intro _; rfl) (_F₀ := by k_asm) (by with_unfolding_all rfl) (by decide) (by rfl) (by decide) ?_); k_whole)
  k_with "exec Assign cons ListComp" => (k_here; k_dflt (refine Assign_ListComp_J (hs := by intro _; rfl) (_F₀ := by k_asm) (by rfl) (by with_unfolding_all rfl) (by with_unfolding_all rfl) (by decide) (by rfl) (by decide) (by rfl) (by rfl) ?_); k_whole)
  k_with "exec For Tuple Call cons nil" => (k_here; (rename Fr _ _ _ _ => lFqw2); (with_unfolding_all refine' For_J (hs := by intro _; rfl) (hE := by passes_own) lFqw2 ?_); k_whole)
  k_with "exec For" => (k_here; (rename Fr _ _ _ _ => lFqw3); (with_unfolding_all refine' For_J (hs := by intro _; rfl) (hE := by passes_own) lFqw3 ?_); k_whole)
  k_with "call type:enumerate" => (k_here; refine stopW ?_)
  k_with "call builtin:len" => (k_here; (rename Fr _ _ _ _ => lFqw5); (rename (Heap.IsList _ _ _) => hl9w5); k_dflt (refine len_gr lFqw5 hl9w5 (by assumption) ?_); k_whole; intro _)
  k_with "setItem ref int" => (k_here; (rename Fr _ _ _ _ => lFqw6); (rename News _ _ _ _ => lNqw6); k_dflt (refine set_any lFqw6 lNqw6 (by assumption) (by assumption) (by assumption) (fmod_lo _ (by decide)) (fmod_hi _ (by decide)) ?_); k_whole; intro _ _ _ _ _ _ _)
  intro news dp un gd cn cs a0 ccd cl0 outer A₀ base h₀ L m s Q E hB hF0 hX hN hT hk hd hu hl hret
  refine wpAny_call ?_
  k_dflt (refine' code_def (binds := [(Str.ofString "script", .ref ax)]) ?k1 ?k2 ?k3 ?k4 ?k5 ?kA ?kF ?kK ?k6 ?k7 ?k8 ?k9 ?kB ?_ ?c2 ?c3 ?c4 ?c5; (case kA => exact rfl); (case kF => exact rfl); (case kK => assumption); (case k1 => k_asm); (case k2 => k_asm); (case k3 => k_asm); (case k4 => k_asm); (case k5 => k_asm); (case k6 => k_is); (case k7 => k_is); (case k8 => ktr_room); (case k9 => exact BindsTo.of_eq rfl); (case c5 => decide); (case kB => exact locs rfl); (case c2 => exact rfl); (case c3 => exact rfl); (case c4 => exact rfl); k_whole; intro g' L' h' FG' F' N' B' X' T'; (try dsimp only [List.reverse_cons, List.reverse_nil, List.nil_append, List.cons_append] at F'); (try dsimp only); (try k_lift B'); (try k_fold))
  have hl' : g'.IsList ax vs.toArray := hl.at fun o e => FG'.keep ax o e
  have hvl : vs.length ≤ 63 := by rw [hI.length]; exact hn
  clear hl
  k_steps
  unfold StopW
  rename Fr _ _ _ _ => lF'
  rename News _ _ _ _ => lN'
  rename (Heap.IsList _ _ _) => hl9
  rename (∀ p ∈ news, _ < _) => hlt0
  refine with_led lN' fun D us0 c0 e1 e2 e3 => ?_
  subst e1
  refine for_enum (by rfl) lF' lN' hl9 (by rfl) (by rfl) (by rfl) (fun i m l => ∃ (us : List Value) (c : Nat) (ms : List Int), l = (D, listOf us.toArray c) :: news ∧ IntsAre us ms ∧ ms.length = 9 ∧ ∃ (u : Str → Option Value), m = fun z => if z = Str.ofString "seeds" then some (.ref D) else u z) ?oJ ?oadr ?oturn ?odone
  case oJ =>
    exact ⟨_, _, _, rfl, .cons _ _ (.cons _ _ (.cons _ _ (.cons _ _ (.cons _ _ (.cons _ _ (.cons _ _ (.cons _ _ (.cons _ _ .nil)))))))), rfl, seeds_ex (by with_unfolding_all rfl)⟩
  case oadr =>
    rintro i m l ⟨us, c, ms, rfl, _⟩
    rfl
  case odone =>
    clear lF' lN' e2 e3
    rintro hh tkk m l ⟨us, c, ms, rfl, hJ1, hJ2, u, rfl⟩ FF NN
    change Fr g' L' hh _ at FF
    change News g' L' hh _ at NN
    (try dsimp only)
    (try k_fold)
    k_steps
    rename Fr _ _ _ _ => fF
    rename News _ _ _ _ => fN
    exact hret D us c ms _ _ fF fN hlt0 hJ1 hJ2
  case oturn =>
    clear lF' lN' e2 e3
    rintro i v ti m l hh tkk own hown hv ⟨us, c, ms, rfl, hJ1, hJ2, u, rfl⟩ FF NN
    change Fr g' L' hh _ at FF
    change News g' L' hh _ at NN
    obtain ⟨x, tx, rfl, hx⟩ := IntsAre.at hI i v (by simpa using hv)
    simp only [List.cons_append] at NN
    (try dsimp only)
    (try k_fold)
    have hnl : ∀ p ∈ news ++ own, p.1 ≠ D := fun p hp => (List.mem_append.mp hp).elim (fun q => Nat.ne_of_lt (hlt0 p q)) (fun q e => hown p q (e ▸ List.mem_cons_self ..))
    k_steps
    rename Fr _ _ _ _ => fF
    rename News _ _ _ _ => fN
    rename IntsAre _ _ => hI3
    rename (_ = 9) => hl3
    exact ⟨_, _, _, (D, _) :: news, rfl, fF, fN, _, _, _, rfl, hI3, hl3, seeds_ex (by with_unfolding_all rfl)⟩
end Mine
end
section
open PySem PySem.W PyProof.Rows PyProof.V
namespace Mine
theorem and_pow (g i : Nat) : g &&& 2 ^ i = if g.testBit i then 2 ^ i else 0 := by
  apply Nat.eq_of_testBit_eq
  intro j
  rw [Nat.testBit_and, Nat.testBit_two_pow]
  by_cases e : i = j
  · subst e
    cases h : g.testBit i <;> simp
  · cases h : g.testBit i <;> simp [e, Nat.testBit_two_pow]
theorem bitAnd_pow (g i : Nat) : Builtin.bitAnd (g : Int) (1 * 2 ^ ((i : Int)).toNat) = if g.testBit i then ((2 ^ i : Nat) : Int) else 0 := by
  have e : (1 * 2 ^ ((i : Int)).toNat : Int) = ((2 ^ i : Nat) : Int) := by rw [Int.one_mul, Int.toNat_natCast]; simp
  have h : Builtin.bitAnd (g : Int) ((2 ^ i : Nat) : Int) = ((g &&& 2 ^ i : Nat) : Int) := by rfl
  rw [e, h, and_pow]
  cases g.testBit i <;> simp
theorem bitXor_pow {g i : Nat} (hb : g.testBit i = true) : Builtin.bitXor (g : Int) (1 * 2 ^ ((i : Int)).toNat) = ((g - 2 ^ i : Nat) : Int) := by
  have h1 : 2 ^ i ≤ g := Nat.ge_two_pow_of_testBit hb
  rw [bitXor_and, bitAnd_pow, if_pos hb]
  have e : (1 * 2 ^ ((i : Int)).toNat : Int) = ((2 ^ i : Nat) : Int) := by rw [Int.one_mul, Int.toNat_natCast]; simp
  rw [e]
  omega
noncomputable def nmS (i : Nat) : Str := (["OPTIMIZED", "NEWLOCALS", "VARARGS", "VARKEYWORDS", "NESTED", "GENERATOR", "NOFREE", "COROUTINE", "ITERABLE_COROUTINE", "ASYNC_GENERATOR",
  "0x400", "0x800", "0x1000", "0x2000", "0x4000", "0x8000", "0x10000", "0x20000", "0x40000", "0x80000", "0x100000", "0x200000", "0x400000", "0x800000",
  "0x1000000", "0x2000000", "0x4000000", "0x8000000", "0x10000000", "0x20000000", "0x40000000", "0x80000000"].map Str.ofString).getD i (Str.ofString "")
@[irreducible] noncomputable def pfS (f i : Nat) : List Str × Nat := (List.range i).foldl (fun a k => if f.testBit k then (a.1 ++ [nmS k], a.2 - 2 ^ k) else a) ([], f)
theorem pfS_zero (f : Nat) : pfS f 0 = ([], f) := by unfold pfS; rfl
theorem pfS_succ (f i : Nat) : pfS f (i + 1) = if f.testBit i then ((pfS f i).1 ++ [nmS i], (pfS f i).2 - 2 ^ i) else pfS f i := by
  unfold pfS; rw [List.range_succ, List.foldl_append]; rfl
theorem half_odd {n : Nat} (h : n % 2 = 1) : 2 * (n / 2) = n - 1 := by omega
theorem half_even {n : Nat} (h : ¬ n % 2 = 1) : 2 * (n / 2) = n := by omega
theorem pf_rest (f : Nat) : ∀ i, (pfS f i).2 = 2 ^ i * (f / 2 ^ i)
  | 0 => by rw [pfS_zero]; simp
  | i + 1 => by
    have ih := pf_rest f i
    have hdiv : f / 2 ^ (i + 1) = f / 2 ^ i / 2 := by rw [Nat.pow_succ, Nat.div_div_eq_div_mul]
    rw [pfS_succ, hdiv, Nat.pow_succ, Nat.mul_assoc]
    have htb : f.testBit i = decide ((f / 2 ^ i) % 2 = 1) := by rw [Nat.testBit_eq_decide_div_mod_eq]
    rw [htb]
    by_cases h : (f / 2 ^ i) % 2 = 1
    · simp only [h, decide_true, if_true]
      rw [ih]
      have h2 : 2 * (f / 2 ^ i / 2) = f / 2 ^ i - 1 := half_odd h
      rw [h2, Nat.mul_sub, Nat.mul_one]
    · simp only [h, decide_false, Bool.false_eq_true, if_false]
      rw [ih]
      have h2 : 2 * (f / 2 ^ i / 2) = f / 2 ^ i := half_even h
      rw [h2]
theorem pf_bit (f i : Nat) : (pfS f i).2.testBit i = f.testBit i := by
  rw [pf_rest, Nat.testBit_eq_decide_div_mod_eq, Nat.testBit_eq_decide_div_mod_eq]
  rw [Nat.mul_div_cancel_left _ (Nat.two_pow_pos i)]
/-- what pretty_flags tells -/
noncomputable def pfN (f : Nat) : List Str := (pfS f 32).1 ++ (if (pfS f 32).2 = 0 ∧ f ≠ 0 then [] else [PySem.baseText "0x" 16 ((pfS f 32).2 : Int)])
theorem pf_stay {f i : Nat} (h : (pfS f i).2 = 0) : ∀ j, i ≤ j → pfS f j = pfS f i
  | 0, hj => by have : i = 0 := by omega
                rw [this]
  | j + 1, hj => by
    by_cases e : i = j + 1
    · rw [e]
    · have ih := pf_stay h j (by omega)
      rw [pfS_succ, ih]
      have hb : f.testBit j = false := by
        rw [← pf_bit, ih, h]; simp
      rw [hb]
      simp
theorem pfN_brk {f i : Nat} (hi : i ≤ 32) (h : (pfS f i).2 = 0) (hf : f ≠ 0) : pfN f = (pfS f i).1 := by
  unfold pfN
  rw [pf_stay h 32 hi, if_pos ⟨h, hf⟩, List.append_nil]
theorem pfN_end {f : Nat} (h : f = 0 ∨ (pfS f 32).2 ≠ 0) : pfN f = (pfS f 32).1 ++ [PySem.baseText "0x" 16 ((pfS f 32).2 : Int)] := by
  unfold pfN
  rw [if_neg]
  rintro ⟨h1, h2⟩
  rcases h with h | h
  · exact h2 h
  · exact h h1
end Mine
end
section
open PySem PySem.W PyProof.Rows PySem.Builtin PySem.Builtin.Str PySem.StrLaws
namespace Mine
abbrev cs : Str := Str.ofString ", "
theorem cl_cs : cl cs = [44, 32] := by decide +kernel
theorem cs_len : cs.length = 2 := by decide +kernel
theorem at_code {x : Str} {k : Nat} (h : At x cs x.length k) : (cl x)[k]? = some 44 := by
  have h2 := h.2
  rw [subAt_eq, cs_len] at h2
  have h3 := eq_of_beq h2
  have e : cs.cps.toList = [44, 32] := cl_cs
  rw [e] at h3
  have := congrArg (fun l : List Nat => l[0]?) h3
  simp only [List.getElem?_take, List.getElem?_drop] at this
  simpa using this
theorem at_of {x : Str} {k : Nat} {r : List Nat} (h : (cl x).drop k = 44 :: 32 :: r) : At x cs x.length k := by
  have hl : k + 2 ≤ x.length := by
    have := congrArg List.length h
    rw [List.length_drop, cl_len] at this
    simp only [List.length_cons] at this
    omega
  refine ⟨by rw [cs_len]; exact hl, ?_⟩
  rw [subAt_eq, cs_len]
  have e : cs.cps.toList = [44, 32] := cl_cs
  rw [e]
  show (((cl x).drop k).take 2 == [44, 32]) = true
  rw [h]
  rfl
theorem cl_join_cons (y z : Str) (r : List Str) : cl (Str.join cs (y :: z :: r)) = cl y ++ (44 :: 32 :: cl (Str.join cs (z :: r))) := by
  have : Str.join cs (y :: z :: r) = y ++ cs ++ Str.join cs (z :: r) := rfl
  rw [this, cl_app, cl_app, cl_cs]
  simp
theorem parts_join (x : Str) : ∀ (ns : List Str), ns ≠ [] → (∀ y ∈ ns, 44 ∉ cl y) → ∀ (a : Nat) (cuts : List Nat) (f : Nat), (cl x).drop a = cl (Str.join cs ns) → a ≤ x.length → ChainG x cs x.length a cuts f → (∀ k, f ≤ k → ¬ At x cs x.length k) →
    partsFrom x 2 a cuts = ns
  | [], h, _, _, _, _, _, _, _, _ => absurd rfl h
  | [y], _, hc, a, cuts, f, hd, ha, hG, hn => by
    have hj : Str.join cs [y] = y := rfl
    rw [hj] at hd
    have hno : ∀ k, a ≤ k → ¬ At x cs x.length k := fun k hk hA => by
      have h1 := at_code hA
      have h2 : (cl y)[k - a]? = some 44 := by
        rw [← hd, List.getElem?_drop]
        rw [show a + (k - a) = k by omega]
        exact h1
      exact hc y (List.mem_singleton.mpr rfl) (List.mem_of_getElem? h2)
    cases cuts with
    | cons c r => exact absurd hG.2.1 (hno c hG.1)
    | nil =>
      show [strSub x a x.length] = [y]
      congr 1
      apply cl_inj
      show (strSub x a x.length).cps.toList = _
      rw [strSub_toList]
      show ((cl x).drop a).take (x.length - a) = cl y
      rw [hd, List.take_of_length_le]
      have := congrArg List.length hd
      rw [List.length_drop, cl_len] at this
      omega
  | y :: z :: r, _, hc, a, cuts, f, hd, ha, hG, hn => by
    rw [cl_join_cons] at hd
    have hylen : a + (cl y).length + 2 ≤ x.length := by
      have := congrArg List.length hd
      rw [List.length_drop, cl_len, List.length_append] at this
      simp only [List.length_cons] at this
      omega
    have hdb : (cl x).drop (a + (cl y).length) = 44 :: 32 :: cl (Str.join cs (z :: r)) := by
      rw [← List.drop_drop, hd, List.drop_left]
    have hdb2 : (cl x).drop (a + (cl y).length + 2) = cl (Str.join cs (z :: r)) := by
      rw [← List.drop_drop, hdb]
      rfl
    have hB := at_of hdb
    have hno : ∀ k, a ≤ k → k < a + (cl y).length → ¬ At x cs x.length k := fun k hk hk2 hA => by
      have h1 := at_code hA
      have h2 : (cl y)[k - a]? = some 44 := by
        have h3 : ((cl x).drop a)[k - a]? = some 44 := by
          rw [List.getElem?_drop, show a + (k - a) = k by omega]
          exact h1
        rw [hd, List.getElem?_append_left (by omega)] at h3
        exact h3
      exact hc y (List.mem_cons_self ..) (List.mem_of_getElem? h2)
    cases cuts with
    | nil =>
      have e : f = a := hG
      exact absurd hB (hn _ (by omega))
    | cons c r' =>
      obtain ⟨h1, h2, h3, h4⟩ := hG
      have hcb : c = a + (cl y).length := by
        rcases Nat.lt_trichotomy c (a + (cl y).length) with q | q | q
        · exact absurd h2 (hno c h1 q)
        · exact q
        · exact absurd hB (h3 _ (by omega) q)
      subst hcb
      rw [cs_len] at h4
      show strSub x a (a + (cl y).length) :: partsFrom x 2 (a + (cl y).length + 2) r' = _
      rw [parts_join x (z :: r) (by simp) (fun y' hy' => hc y' (List.mem_cons_of_mem _ hy')) _ r' f hdb2 hylen h4 hn]
      congr 1
      apply cl_inj
      show (strSub x a _).cps.toList = _
      rw [strSub_toList]
      show ((cl x).drop a).take (a + (cl y).length - a) = cl y
      rw [hd, show a + (cl y).length - a = (cl y).length by omega, List.take_left]
theorem split_join (ns : List Str) (hne : ns ≠ []) (hc : ∀ y ∈ ns, 44 ∉ cl y) : Txt.split (Str.join cs ns) cs = ns := by
  obtain ⟨f, hG, hn⟩ := occ_tight (Str.join cs ns) cs (by rw [cs_len]; omega)
  have key := parts_join (Str.join cs ns) ns hne hc 0 _ f rfl (Nat.zero_le _) hG hn
  unfold Txt.split
  split
  · rename_i h
    rw [Bool.or_eq_true, decide_eq_true_eq, decide_eq_true_eq] at h
    have e0 : occurrences (Str.join cs ns) cs 0 (Str.join cs ns).length ((Str.join cs ns).length + 1) = [] := by
      rcases h with h | h
      · cases hq : occurrences (Str.join cs ns) cs 0 (Str.join cs ns).length ((Str.join cs ns).length + 1) with
        | nil => rfl
        | cons c r =>
          rw [hq] at hG
          have := hG.2.1.1
          omega
      · exfalso
        have k1 : PySem.Builtin.Str.strKind cs = 1 := by decide +kernel
        rw [k1] at h
        unfold PySem.Builtin.Str.strKind at h
        split at h
        · omega
        · split at h <;> omega
    rw [e0] at key
    have e1 : partsFrom (Str.join cs ns) 2 0 [] = [Str.join cs ns] := by
      show [strSub (Str.join cs ns) 0 (Str.join cs ns).length] = _
      rw [sub_whole]
    exact e1.symm.trans key
  · split
    · rename_i h
      have e0 := List.isEmpty_iff.mp h
      rw [e0] at key
      have e1 : partsFrom (Str.join cs ns) 2 0 [] = [Str.join cs ns] := by
        show [strSub (Str.join cs ns) 0 (Str.join cs ns).length] = _
        rw [sub_whole]
      exact e1.symm.trans key
    · rw [partsBetween_eq, cs_len]
      exact key
end Mine
end
section
open PySem PySem.W PyProof.Rows PyProof.V
namespace Mine
/-- the names at the places 0 to 33 -/
noncomputable def nmX (i : Nat) : Str := if i = 32 then Str.ofString "0x100000000" else if i = 33 then Str.ofString "0x200000000" else nmS i
noncomputable def fallAt (w : List Nat) (k : Nat) : Bool := decide (w.getD (k + 1) 0 < w.getD k 0)
noncomputable def fallsL (w : List Nat) : List Nat := (List.range 6).filter (fallAt w)
theorem ite_app (b : Bool) (a : Nat) (X : List Nat) : (if b = true then a :: X else X) = (if b = true then [a] else []) ++ X := by cases b <;> rfl
theorem falls_cases {P : List Nat → Prop} (h : ∀ b0 b1 b2 b3 b4 b5 : Bool, P ((if b0 then [0] else []) ++ ((if b1 then [1] else []) ++ ((if b2 then [2] else []) ++ ((if b3 then [3] else []) ++ ((if b4 then [4] else []) ++ (if b5 then [5] else []))))))) (w : List Nat) : P (fallsL w) := by
  have e : ∀ f : Nat → Bool, (List.range 6).filter f = (if f 0 then [0] else []) ++ ((if f 1 then [1] else []) ++ ((if f 2 then [2] else []) ++ ((if f 3 then [3] else []) ++ ((if f 4 then [4] else []) ++ (if f 5 then [5] else []))))) := by
    intro f
    show [0, 1, 2, 3, 4, 5].filter f = _
    simp only [List.filter_cons, List.filter_nil]
    rw [ite_app (f 0), ite_app (f 1), ite_app (f 2), ite_app (f 3), ite_app (f 4)]
  unfold fallsL
  rw [e]
  exact h _ _ _ _ _ _
/-- the falls as a mask -/
noncomputable def maskL (l : List Nat) : Nat := (l.map fun k => 2 ^ k).sum
theorem mask_lt (w : List Nat) : maskL (fallsL w) < 64 := by
  refine falls_cases (P := fun l => maskL l < 64) ?_ w
  decide
theorem mask_bit (w : List Nat) : ∀ k, k < 6 → ((maskL (fallsL w)).testBit k = decide (k ∈ fallsL w)) := by
  refine falls_cases (P := fun l => ∀ k, k < 6 → ((maskL l).testBit k = decide (k ∈ l))) ?_ w
  decide
theorem mask_zero (w : List Nat) : maskL (fallsL w) = 0 ↔ fallsL w = [] := by
  refine falls_cases (P := fun l => maskL l = 0 ↔ l = []) ?_ w
  decide
theorem falls_mem (w : List Nat) : ∀ k ∈ fallsL w, k < 6 := fun _ hk => List.mem_range.mp (List.mem_filter.mp hk).1
noncomputable def flagsN (l : List Nat) (place top : Nat) : Nat := (l.map fun k => 2 ^ (place + k)).sum + top * 2 ^ 32
theorem flags_mask (l : List Nat) (place top : Nat) : flagsN l place top = 2 ^ place * maskL l + 2 ^ 32 * top := by
  unfold flagsN maskL
  have : ∀ l : List Nat, (l.map fun k => 2 ^ (place + k)).sum = 2 ^ place * (l.map fun k => 2 ^ k).sum := by
    intro l
    induction l with
    | nil => simp
    | cons a r ih => rw [List.map_cons, List.sum_cons, ih, List.map_cons, List.sum_cons, Nat.mul_add, Nat.pow_add]
  rw [this, Nat.mul_comm top]
theorem low_lt {w : List Nat} {place : Nat} (hp : place < 27) : 2 ^ place * maskL (fallsL w) < 2 ^ 32 := by
  have h1 := mask_lt w
  have h2 : 2 ^ place ≤ 2 ^ 26 := Nat.pow_le_pow_right (by decide) (by omega)
  have h3 : 2 ^ place * maskL (fallsL w) ≤ 2 ^ 26 * 63 := Nat.mul_le_mul h2 (by omega)
  omega
theorem flags_lt {w : List Nat} {place top : Nat} (hp : place < 27) (ht : top < 3) : flagsN (fallsL w) place top < 2 ^ 34 := by
  rw [flags_mask]
  have := low_lt (w := w) hp
  omega
theorem flags_bit {w : List Nat} {place top j : Nat} (hp : place < 27) (hj : j < 32) : (flagsN (fallsL w) place top).testBit j = decide (place ≤ j ∧ j - place ∈ fallsL w) := by
  rw [flags_mask]
  have hlow := low_lt (w := w) hp
  have e1 : (2 ^ place * maskL (fallsL w) + 2 ^ 32 * top).testBit j = (2 ^ place * maskL (fallsL w)).testBit j := by
    rw [Nat.add_comm, Nat.testBit_two_pow_mul_add _ hlow, if_pos hj]
  rw [e1, Nat.testBit_two_pow_mul]
  by_cases h : place ≤ j
  · by_cases h6 : j - place < 6
    · rw [mask_bit w _ h6]
      simp [h]
    · have hz : (maskL (fallsL w)).testBit (j - place) = false := by
        refine Nat.testBit_lt_two_pow (Nat.lt_of_lt_of_le (mask_lt w) ?_)
        exact Nat.pow_le_pow_right (n := 2) (by decide) (show 6 ≤ j - place by omega)
      have hn : j - place ∉ fallsL w := fun q => h6 (falls_mem w _ q)
      simp [hz, hn]
  · simp [h]
theorem pf_filter (f : Nat) : ∀ i, (pfS f i).1 = ((List.range i).filter fun j => f.testBit j).map nmS
  | 0 => by rw [pfS_zero]; rfl
  | i + 1 => by
    rw [pfS_succ, List.range_succ, List.filter_append, List.map_append, ← pf_filter f i]
    by_cases h : f.testBit i = true
    · rw [if_pos h, List.filter_cons_of_pos h]; rfl
    · rw [if_neg h, List.filter_cons_of_neg h]; simp
theorem range_shift (place r : Nat) (f : Nat → Bool) : (List.range (place + (6 + r))).filter (fun j => decide (place ≤ j ∧ j - place ∈ (List.range 6).filter f)) = ((List.range 6).filter f).map fun k => place + k := by
  have hmem : ∀ k, k ∈ (List.range 6).filter f ↔ k < 6 ∧ f k = true := fun k => by rw [List.mem_filter, List.mem_range]
  rw [List.range_add, List.filter_append, List.range_add, List.map_append, List.filter_append]
  have e1 : (List.range place).filter (fun j => decide (place ≤ j ∧ j - place ∈ (List.range 6).filter f)) = [] := by
    refine List.filter_eq_nil_iff.mpr fun j hj => ?_
    have := List.mem_range.mp hj
    simp
    omega
  have e3 : (((List.range r).map fun x => 6 + x).map fun x => place + x).filter (fun j => decide (place ≤ j ∧ j - place ∈ (List.range 6).filter f)) = [] := by
    refine List.filter_eq_nil_iff.mpr fun j hj => ?_
    obtain ⟨y, hy, rfl⟩ := List.mem_map.mp hj
    obtain ⟨x, _, rfl⟩ := List.mem_map.mp hy
    rw [decide_eq_true_eq, hmem]
    omega
  rw [e1, e3, List.nil_append, List.append_nil, List.filter_map]
  congr 1
  refine List.filter_congr fun k hk => ?_
  have h6 := List.mem_range.mp hk
  show decide (place ≤ place + k ∧ place + k - place ∈ (List.range 6).filter f) = f k
  rw [Nat.add_sub_cancel_left]
  have : (place ≤ place + k ∧ k ∈ (List.range 6).filter f) ↔ f k = true := by rw [hmem]; exact ⟨fun h => h.2.2, fun h => ⟨Nat.le_add_right _ _, h6, h⟩⟩
  cases hf : f k
  · rw [decide_eq_false]; rw [this, hf]; decide
  · rw [decide_eq_true]; rw [this]; exact hf
/-- what stands behind the falls' names -/
noncomputable def restS (l : List Nat) (top : Nat) : List Str := if top = 0 then (if l = [] then [Str.ofString "0x0"] else []) else [nmX (31 + top)]
theorem pfN_flags {w : List Nat} {place top : Nat} (hp : place < 27) (ht : top < 3) : pfN (flagsN (fallsL w) place top) = ((fallsL w).map fun k => nmX (place + k)) ++ restS (fallsL w) top := by
  have h1 : (pfS (flagsN (fallsL w) place top) 32).1 = (fallsL w).map fun k => nmX (place + k) := by
    rw [pf_filter]
    have e : (List.range 32).filter (fun j => (flagsN (fallsL w) place top).testBit j) = (fallsL w).map fun k => place + k := by
      have := range_shift place (26 - place) (fallAt w)
      rw [show place + (6 + (26 - place)) = 32 by omega] at this
      refine Eq.trans (List.filter_congr fun j hj => ?_) this
      exact flags_bit hp (List.mem_range.mp hj)
    rw [e, List.map_map]
    refine List.map_congr_left fun k hk => ?_
    have := falls_mem w k hk
    show nmS (place + k) = nmX (place + k)
    unfold nmX
    rw [if_neg (by omega), if_neg (by omega)]
  have h2 : (pfS (flagsN (fallsL w) place top) 32).2 = 2 ^ 32 * top := by
    rw [pf_rest, flags_mask]
    have := low_lt (w := w) hp
    congr 1
    omega
  have h0 : flagsN (fallsL w) place top = 0 ↔ (top = 0 ∧ fallsL w = []) := by
    rw [flags_mask, ← mask_zero w]
    have := Nat.two_pow_pos place
    constructor
    · intro h
      have h3 : 2 ^ place * maskL (fallsL w) = 0 := by omega
      rcases Nat.mul_eq_zero.mp h3 with q | q
      · omega
      · exact ⟨by omega, q⟩
    · rintro ⟨h3, h4⟩
      rw [h3, h4]; simp
  unfold pfN
  rw [h1, h2]
  congr 1
  unfold restS
  have h3 : top = 0 ∨ top = 1 ∨ top = 2 := by omega
  rcases h3 with rfl | rfl | rfl
  · rw [if_pos rfl]
    by_cases hl : fallsL w = []
    · have hf : flagsN (fallsL w) place 0 = 0 := h0.mpr ⟨rfl, hl⟩
      rw [if_pos hl, if_neg (fun q => q.2 hf)]
      decide +kernel
    · rw [if_neg hl, if_pos ⟨rfl, fun q => hl (h0.mp q).2⟩]
  · rw [if_neg (show ¬ (_ ∧ _) from fun q => absurd q.1 (by decide)), if_neg (by decide)]
    decide +kernel
  · rw [if_neg (show ¬ (_ ∧ _) from fun q => absurd q.1 (by decide)), if_neg (by decide)]
    decide +kernel
end Mine
end
section
open PySem PySem.W PyProof.Rows PyProof.Rows.LCg
set_option maxHeartbeats 8000000
set_option pp.deepTerms false
set_option pp.maxSteps 3000
namespace Mine

abbrev flagsD : List (Int × PySem.PyData) := [(1, .str { cps := #[79, 80, 84, 73, 77, 73, 90, 69, 68] }),
      (2, .str { cps := #[78, 69, 87, 76, 79, 67, 65, 76, 83] }),
      (4, .str { cps := #[86, 65, 82, 65, 82, 71, 83] }),
      (8, .str { cps := #[86, 65, 82, 75, 69, 89, 87, 79, 82, 68, 83] }),
      (16, .str { cps := #[78, 69, 83, 84, 69, 68] }),
      (32, .str { cps := #[71, 69, 78, 69, 82, 65, 84, 79, 82] }),
      (64, .str { cps := #[78, 79, 70, 82, 69, 69] }),
      (128, .str { cps := #[67, 79, 82, 79, 85, 84, 73, 78, 69] }),
      (256, .str { cps := #[73, 84, 69, 82, 65, 66, 76, 69, 95, 67, 79, 82, 79, 85, 84, 73, 78, 69] }),
      (512, .str { cps := #[65, 83, 89, 78, 67, 95, 71, 69, 78, 69, 82, 65, 84, 79, 82] })]
theorem hexsz {i : Nat} (h : i < 32) : (baseText "0x" 16 (1 * 2 ^ ((i : Int)).toNat)).length ≤ sizeLine := by
  rw [sizeLine_eq]
  have : ∀ i : Fin 32, (baseText "0x" 16 (1 * 2 ^ ((i.val : Int)).toNat)).length ≤ 100 := by decide +kernel
  have := this ⟨i, h⟩
  simp only at this
  omega
theorem flag_val {i : Nat} (h : i < 32) : (KTD.datumAt (1 * 2 ^ ((i : Int)).toNat) flagsD).getD (.str (baseText "0x" 16 (1 * 2 ^ ((i : Int)).toNat))) = PySem.PyData.str (nmS i) := by
  have e : (List.range 32).map (fun (j : Nat) => (KTD.datumAt (1 * 2 ^ ((j : Int)).toNat) flagsD).getD (.str (baseText "0x" 16 (1 * 2 ^ ((j : Int)).toNat)))) = (List.range 32).map (fun j => PySem.PyData.str (nmS j)) := by with_unfolding_all rfl
  have q := congrArg (fun l => l[i]?) e
  simp only [List.getElem?_map, List.getElem?_range h, Option.map_some, Option.some.injEq] at q
  exact q
theorem get_flag {prog : Program} {w : World} {A : Around} {E : Value → Shared → Prop} {s : Shared} {h₀ : Heap} {L : Addr} {m : Str → Option Value} {i : Nat} {tk t : Tok} {Q : Value → Shared → Prop} (K : KTD.Keyed h₀ 29 flagsD) (F : Fr h₀ L s.heap m) (hi : i < 32)
    (h : ∀ t', Q (.str (nmS i) t') { s with toks := s.toks + 1 }) : wpAny (model prog w) A (call (.builtin "dict.get") [.ref 29, .int (1 * 2 ^ ((i : Int)).toNat) tk, .str (baseText "0x" 16 (1 * 2 ^ ((i : Int)).toNat)) t]) Q E s :=
  call_get2_intTab (K.keep F.keep prog w) (PyProof.V.Flat.str _ t) fun v hv => by
    rw [KTD.lookup_keyed, flag_val hi] at hv
    obtain ⟨t', rfl⟩ := PyProof.V.Flat.str_inv hv
    exact h t'
noncomputable def M36 (fl : Int) (tf : Tok) (u1 u2 : Option Value) (ln : Value) : Str → Option Value := fun y => if y = Str.ofString "flag" then u1 else if y = Str.ofString "i" then u2 else if y = Str.ofString "names" then some ln else if y = Str.ofString "flags" then some (.int fl tf) else none
theorem M36_ex {m : Str → Option Value} {fl : Int} {tf : Tok} {ln : Value} (h1 : m (Str.ofString "names") = some ln) (h2 : m (Str.ofString "flags") = some (.int fl tf))
    (h5 : ∀ y, y ≠ Str.ofString "flag" → y ≠ Str.ofString "i" → y ≠ Str.ofString "names" → y ≠ Str.ofString "flags" → m y = none) : ∃ (u1 u2 : Option Value) (tf : Tok), m = M36 fl tf u1 u2 ln := by
  refine ⟨m (Str.ofString "flag"), m (Str.ofString "i"), tf, ?_⟩
  funext y
  unfold M36
  by_cases q1 : y = Str.ofString "flag"
  · rw [if_pos q1, q1]
  by_cases q2 : y = Str.ofString "i"
  · rw [if_neg q1, if_pos q2, q2]
  by_cases q3 : y = Str.ofString "names"
  · rw [if_neg q1, if_neg q2, if_pos q3, q3, h1]
  by_cases q4 : y = Str.ofString "flags"
  · rw [if_neg q1, if_neg q2, if_neg q3, if_pos q4, q4, h2]
  · rw [if_neg q1, if_neg q2, if_neg q3, if_neg q4, h5 y q1 q2 q3 q4]
theorem append_led {prog : Program} {w : World} {A : Around} {E : Value → Shared → Prop} {s : Shared} {h₀ : Heap} {L ln : Addr} {m : Str → Option Value} {vs : List Value} {c : Nat} {rest : List (Addr × Obj)} {v : Value} {Q : Value → Shared → Prop} (F : Fr h₀ L s.heap m) (N : News h₀ L s.heap ((ln, listOf vs.toArray c) :: rest)) (hne : ∀ p ∈ rest, p.1 ≠ ln) (hsz : vs.length ≤ 1000)
    (h : ∀ h', Fr h₀ L h' m → News h₀ L h' ((ln, listOf (vs ++ [v]).toArray (c + 1)) :: rest) → Q .none { s with heap := h' }) : wpAny (model prog w) A (call (.builtin "list.append") [.ref ln, v]) Q E s := by
  have hc := N _ (List.mem_cons_self ..)
  refine append_at hc.1 (fun h' hs hD => ?_) (by rw [List.size_toArray, sizeLine_eq]; omega)
  refine h h' (F.change hs hc.2.1 hc.2.2) fun p hp => ?_
  rcases List.mem_cons.mp hp with rfl | hp
  · exact ⟨by rw [hD, List.push_toArray], hc.2⟩
  · have z := N p (List.mem_cons_of_mem _ hp)
    exact ⟨hs.extBut _ _ (hne p hp) z.1, z.2⟩
theorem pf_len (f : Nat) : ∀ i, (pfS f i).1.length ≤ i
  | 0 => by rw [pfS_zero]; exact Nat.le_refl _
  | i + 1 => by
    have := pf_len f i
    rw [pfS_succ]
    split
    · rw [List.length_append]; simp only [List.length_cons, List.length_nil]; omega
    · omega
theorem hexb {f : Nat} (hf : f < 2 ^ 34) : (baseText "0x" 16 ((pfS f 32).2 : Int)).length ≤ 100 := by
  rw [pf_rest]
  have h4 : f / 2 ^ 32 < 4 := by omega
  generalize f / 2 ^ 32 = q at h4
  have : ∀ q : Fin 4, (baseText "0x" 16 ((2 ^ 32 * q.val : Nat) : Int)).length ≤ 100 := by decide +kernel
  exact this ⟨q, h4⟩
theorem nm_len (i : Nat) : (nmS i).length ≤ 100 := by
  by_cases h : i < 32
  · have : ∀ i : Fin 32, (nmS i.val).length ≤ 100 := by decide +kernel
    exact this ⟨i, h⟩
  · unfold nmS
    rw [List.getD_eq_getElem?_getD, List.getElem?_eq_none (by simp; omega)]
    decide
theorem pf_each (f : Nat) : ∀ i, ∀ y ∈ (pfS f i).1, y.length ≤ 100
  | 0 => by rw [pfS_zero]; intro y hy; cases hy
  | i + 1 => by
    have := pf_each f i
    rw [pfS_succ]
    split
    · intro y hy
      rcases List.mem_append.mp hy with h | h
      · exact this y h
      · rw [List.mem_singleton.mp h]; exact nm_len i
    · exact this
theorem sum_le100 : ∀ {ys : List Str}, (∀ y ∈ ys, y.length ≤ 100) → (ys.map (·.length)).sum ≤ 100 * ys.length
  | [], _ => by simp
  | y :: r, h => by
    have h1 := sum_le100 (ys := r) fun y hy => h y (List.mem_cons_of_mem _ hy)
    have h2 := h y (List.mem_cons_self ..)
    simp only [List.map_cons, List.sum_cons, List.length_cons]
    omega
theorem strs_vals {vs : List Value} {ys : List Str} (h : StrsAre vs ys) : ∃ l, vs = strValues l ∧ l.map (·.1) = ys := by
  induction h with
  | nil => exact ⟨[], rfl, rfl⟩
  | cons y t _ ih => obtain ⟨l, rfl, rfl⟩ := ih; exact ⟨(y, t) :: l, rfl, rfl⟩
theorem strs_app {vs : List Value} {ys : List Str} {y : Str} {t : Tok} (h : StrsAre vs ys) : StrsAre (vs ++ [.str y t]) (ys ++ [y]) := by
  induction h with
  | nil => exact .cons _ _ .nil
  | cons y' t' _ ih => exact .cons _ _ ih
theorem join_led {prog : Program} {w : World} {A : Around} {E : Value → Shared → Prop} {s : Shared} {h₀ : Heap} {L ln : Addr} {vs : List Value} {ys : List Str} {c : Nat} {rest : List (Addr × Obj)} {x : Str} {t : Tok} {Q : Value → Shared → Prop} (N : News h₀ L s.heap ((ln, listOf vs.toArray c) :: rest)) (h : StrsAre vs ys)
    (hb : ∀ y ∈ ys, y.length ≤ 100) (hn : ys.length ≤ 100) (hx : x.length ≤ 16) (hq : ∀ t' k, Q (.str (Str.join x ys) t') { s with toks := k }) : wpAny (model prog w) A (call (.builtin "str.join") [.str x t, .ref ln]) Q E s := by
  obtain ⟨l, rfl, rfl⟩ := strs_vals h
  have hs := sum_le100 hb
  refine SC.join (l := l) ⟨_, (N _ (List.mem_cons_self ..)).1, rfl, c, rfl⟩ rfl (joinOk_of_weight (by omega) hx) fun t' k => ?_
  have e : Txt.join x (l.map (·.1)) = Str.join x (l.map (·.1)) := StrLaws.glued_eq_join _ _
  rw [e]
  exact hq t' k
theorem hexsz2 {f : Nat} (hf : f < 2 ^ 34) : (baseText "0x" 16 ((pfS f 32).2 : Int)).length ≤ sizeLine := by
  rw [pf_rest, sizeLine_eq]
  have h4 : f / 2 ^ 32 < 4 := by omega
  generalize f / 2 ^ 32 = q at h4
  have : ∀ q : Fin 4, (baseText "0x" 16 ((2 ^ 32 * q.val : Nat) : Int)).length ≤ 100 := by decide +kernel
  have := this ⟨q, h4⟩
  simp only at this
  omega
theorem c36 (w : World) (mean : ExcName → Option Value) (mg mb : Str → Option Value) (f : Nat) (ta : Tok) (hf : f < 2 ^ 34) :
  CL w mean mg mb 36 2 20 [.int f ta] (fun t => .str (Str.join (Str.ofString ", ") (pfN f)) t) := by
  dsimp only [CL]; w_top off; k_with_none; k_fill
  k_with "exec For Name Call cons cons" => (k_here; (rename Fr _ _ _ _ => lFqw0); (with_unfolding_all refine' For_J (hs := by intro _; rfl) (hE := by passes_own) lFqw0 ?_); k_whole)
  k_with "pyIter ref" => (k_here; k_extra "iterref")
  k_with "call builtin:hex" => (k_here; first | ((with_reducible show wpAny _ _ (call _ [Value.int (1 * 2 ^ _) _]) _ _ _); (refine P.hex_of_int ?_ (hexsz (by assumption))); k_whole) | ((with_reducible show wpAny _ _ (call _ [Value.int (Nat.cast _) _]) _ _ _); (refine P.hex_of_int ?_ (hexsz2 (by assumption))); k_whole))
  k_with "call builtin:str.join" => (k_here; (rename News _ _ _ _ => lNqw3); (rename (∀ t : Tok, StrsAre _ _) => q9w3); k_dflt (refine join_led lNqw3 (q9w3 _) (by assumption) (by assumption) (by decide) ?_); k_whole; intro _ _)
  k_with "call builtin:list.append" => (k_here; (rename Fr _ _ _ _ => lFqw4); (rename News _ _ _ _ => lNqw4); k_dflt (refine append_led lFqw4 lNqw4 (by assumption) (by assumption) ?_); k_whole; intro _ _ _)
  k_with "call builtin:dict.get" => (k_here; (rename Fr _ _ _ _ => lFqw5); k_dflt (refine get_flag (by assumption) lFqw5 (by assumption) ?_); k_whole; intro _)
  intro news dp un gd cn cs a0 ccd cl0 outer A₀ base h₀ L m s Q E hB hF0 hX hN hT hk hd hu hret
  refine wpAny_call ?_
  k_dflt (refine' code_def (binds := [(Str.ofString "flags", .int f ta)]) ?k1 ?k2 ?k3 ?k4 ?k5 ?kA ?kF ?kK ?k6 ?k7 ?k8 ?k9 ?kB ?_ ?c2 ?c3 ?c4 ?c5; (case kA => exact rfl); (case kF => exact rfl); (case kK => assumption); (case k1 => k_asm); (case k2 => k_asm); (case k3 => k_asm); (case k4 => k_asm); (case k5 => k_asm); (case k6 => k_is); (case k7 => k_is); (case k8 => ktr_room); (case k9 => exact BindsTo.of_eq rfl); (case c5 => decide); (case kB => exact locs rfl); (case c2 => exact rfl); (case c3 => exact rfl); (case c4 => exact rfl); k_whole; intro g' L' h' FG' F' N' B' X' T'; (try dsimp only [List.reverse_cons, List.reverse_nil, List.nil_append, List.cons_append] at F'); (try dsimp only); (try k_lift B'); (try k_fold))
  k_steps
  rename_i ln hx1 hl1 hx2 fF fN hx3 tkx t1 u1 v1 hR lF' lN' hK
  refine for_range (n := 32) (a := 0) (b := 32) (by rfl) lF' lN' hR (by decide) (by decide) (by rfl) (by rfl) (fun i m l => (f = 0 ∨ (pfS f i).2 ≠ 0) ∧ ∃ (vs : List Value) (c : Nat), l = (ln, listOf vs.toArray c) :: news ∧ StrsAre vs (pfS f i).1 ∧ ∃ (u1 u2 : Option Value) (tf : Tok), m = M36 ((pfS f i).2 : Int) tf u1 u2 (.ref ln)) ?hJ ?hadr ?turn ?done
  case hJ =>
    rw [pfS_zero]
    exact ⟨Nat.eq_zero_or_pos f |>.imp id Nat.ne_of_gt, [], 0, rfl, .nil, M36_ex (by with_unfolding_all rfl) (by with_unfolding_all rfl) (fun y h1 h2 h3 h4 => by rw [if_neg h3]; show (match y == Str.ofString "flags" with | true => some (Value.int (↑f) ta) | false => none) = none; rw [beq_false_of_ne h4])⟩
  case hadr =>
    rintro i m l ⟨_, vs, c, rfl, _⟩
    rfl
  case turn =>
    rintro i ti m l hh tkk own hown hi ⟨hz, vs, c, rfl, hvs, u1, u2, tf, rfl⟩ FF NN
    have hnl : ∀ p ∈ news ++ own, p.1 ≠ ln := fun p hp => (List.mem_append.mp hp).elim (fun q => Nat.ne_of_lt (hl1 p q)) (fun q e => hown p q (e ▸ List.mem_cons_self ..))
    have hvl : vs.length ≤ 1000 := by have := pf_len f i; rw [hvs.length]; omega
    change Fr g' L' hh _ at FF
    change News g' L' hh _ at NN
    unfold M36 at FF
    clear lF' lN' fF fN
    simp only [Int.zero_add, List.cons_append] at FF NN
    (try dsimp only)
    (try k_fold)
    have e1 := bitAnd_pow (pfS f i).2 i
    have e2 := pf_bit f i
    k_steps
    · have hb : f.testBit i = true := by
        rename (Builtin.bitAnd _ _ ≠ 0) => q
        rw [e1, e2] at q
        by_cases hb : f.testBit i = true
        · exact hb
        · rw [if_neg hb] at q; exact absurd rfl q
      have hx := bitXor_pow (g := (pfS f i).2) (by rw [e2]; exact hb)
      have hs : pfS f (i + 1) = ((pfS f i).1 ++ [nmS i], (pfS f i).2 - 2 ^ i) := by rw [pfS_succ, if_pos hb]
      rename (Builtin.bitXor _ _ ≠ 0) => q2
      rw [hx] at q2
      rename Fr _ _ _ _ => fF
      rename News _ _ _ _ => fN
      refine ⟨_, _, _, (ln, _) :: news, rfl, fF, fN, .inr (by rw [hs]; show (pfS f i).2 - 2 ^ i ≠ 0; omega), _, _, rfl, by rw [hs]; exact strs_app hvs, ?_⟩
      rw [hs]
      show ∃ u1 u2 tf, _ = M36 (((pfS f i).2 - 2 ^ i : Nat) : Int) tf u1 u2 (.ref ln)
      rw [← hx]
      exact M36_ex (by with_unfolding_all rfl) (by with_unfolding_all rfl) (fun y h1 h2 h3 h4 => by simp only [if_neg h1, if_neg h2, if_neg h3, if_neg h4])
    · have hb : f.testBit i = true := by
        rename (Builtin.bitAnd _ _ ≠ 0) => q
        rw [e1, e2] at q
        by_cases hb : f.testBit i = true
        · exact hb
        · rw [if_neg hb] at q; exact absurd rfl q
      have hx := bitXor_pow (g := (pfS f i).2) (by rw [e2]; exact hb)
      have hs : pfS f (i + 1) = ((pfS f i).1 ++ [nmS i], (pfS f i).2 - 2 ^ i) := by rw [pfS_succ, if_pos hb]
      rename (Builtin.bitXor _ _ = 0) => q2
      rw [hx] at q2
      rename News _ _ _ _ => fN
      have hf0 : f ≠ 0 := by
        intro q; rw [q] at hb; simp at hb
      have hN := pfN_brk (f := f) (i := i + 1) (by omega) (by rw [hs]; show (pfS f i).2 - 2 ^ i = 0; omega) hf0
      have hvs2 : ∀ t : Tok, StrsAre (vs ++ [.str (nmS i) t]) (pfN f) := fun t => by rw [hN, hs]; exact strs_app hvs
      have hy1 : ∀ y ∈ pfN f, y.length ≤ 100 := by rw [hN]; exact pf_each f _
      have hy2 : (pfN f).length ≤ 100 := by rw [hN]; have := pf_len f (i + 1); omega
      dsimp only [FlowEnd]
      k_steps
      rename Fr _ _ _ _ => fF2
      rename News _ _ _ _ => fN2
      exact hret _ _ _ fF2 fun p hp => fN2 p (List.mem_cons_of_mem _ (List.mem_append_left _ hp))
    · have hb : ¬ f.testBit i = true := by
        rename (Builtin.bitAnd _ _ = 0) => q
        rw [e1, e2] at q
        intro hb
        rw [if_pos hb] at q
        have := Nat.two_pow_pos i
        omega
      have hs : pfS f (i + 1) = pfS f i := by rw [pfS_succ, if_neg hb]
      rename Fr _ _ _ _ => fF
      rename News _ _ _ _ => fN
      refine ⟨_, _, _, (ln, _) :: news, rfl, fF, fN, by rw [hs]; exact hz, _, _, rfl, by rw [hs]; exact hvs, ?_⟩
      rw [hs]
      exact M36_ex (by with_unfolding_all rfl) (by with_unfolding_all rfl) (fun y h1 h2 h3 h4 => by simp only [if_neg h1, if_neg h2, if_neg h3, if_neg h4])
  case done =>
    rintro hh tkk m l ⟨hz, vs, c, rfl, hvs, u1, u2, tf, rfl⟩ FF NN
    have hnl : ∀ p ∈ news, p.1 ≠ ln := fun p hp => Nat.ne_of_lt (hl1 p hp)
    have hvl : vs.length ≤ 1000 := by have := pf_len f 32; rw [hvs.length]; omega
    have hN := pfN_end hz
    have hvs2 : ∀ t : Tok, StrsAre (vs ++ [.str (baseText "0x" 16 ((pfS f 32).2 : Int)) t]) (pfN f) := fun t => by rw [hN]; exact strs_app hvs
    have hy1 : ∀ y ∈ pfN f, y.length ≤ 100 := by
      rw [hN]
      intro y hy
      rcases List.mem_append.mp hy with h | h
      · exact pf_each f _ y h
      · rw [List.mem_singleton.mp h]; exact hexb hf
    have hy2 : (pfN f).length ≤ 100 := by rw [hN, List.length_append]; have := pf_len f 32; simp only [List.length_cons, List.length_nil]; omega
    change Fr g' L' hh _ at FF
    change News g' L' hh _ at NN
    unfold M36 at FF
    clear lF' lN' fF fN
    (try dsimp only)
    (try k_fold)
    k_steps
    rename Fr _ _ _ _ => fF2
    rename News _ _ _ _ => fN2
    exact hret _ _ _ fF2 fun p hp => fN2 p (List.mem_cons_of_mem _ hp)
end Mine
end
section
open PySem PySem.W PyProof.Rows PyProof.V
namespace Mine
theorem flags_cast (l : List Nat) (place top : Nat) : (List.map (fun (k : Nat) => (2 : Int) ^ (place + k)) l).sum + (top : Int) * 2 ^ Int.toNat 32 = ((flagsN l place top : Nat) : Int) := by
  unfold flagsN
  have : ∀ l : List Nat, (List.map (fun (k : Nat) => (2 : Int) ^ (place + k)) l).sum = (((l.map fun k => 2 ^ (place + k)).sum : Nat) : Int) := by
    intro l
    induction l with
    | nil => rfl
    | cons a r ih => rw [List.map_cons, List.sum_cons, ih, List.map_cons, List.sum_cons]; simp
  rw [this]
  have e : (2 : Int) ^ Int.toNat 32 = ((2 ^ 32 : Nat) : Int) := by decide
  rw [e]
  omega
theorem c36z (w : World) (mean : ExcName → Option Value) (mg mb : Str → Option Value) (z : Int) (f : Nat) (ta : Tok) (hz : z = (f : Int)) (hf : f < 2 ^ 34) :
  CL w mean mg mb 36 2 20 [.int z ta] (fun t => .str (Str.join (Str.ofString ", ") (pfN f)) t) := by
  subst hz; exact c36 w mean mg mb f ta hf
theorem nmX_ok {i : Nat} (h : i < 34) : (nmX i).length ≤ 100 ∧ 44 ∉ cl (nmX i) := by
  have : ∀ i : Fin 34, (nmX i.val).length ≤ 100 ∧ 44 ∉ cl (nmX i.val) := by decide +kernel
  exact this ⟨i, h⟩
/-- what pretty_flags tells -/
noncomputable def tellS (l : List Nat) (place top : Nat) : List Str := (l.map fun k => nmX (place + k)) ++ restS l top
theorem tell_mem {w : List Nat} {place top : Nat} (hp : place < 27) (ht : top < 3) : ∀ y ∈ tellS (fallsL w) place top, y.length ≤ 100 ∧ 44 ∉ cl y := by
  intro y hy
  rcases List.mem_append.mp hy with h | h
  · obtain ⟨k, hk, rfl⟩ := List.mem_map.mp h
    have := falls_mem w k hk
    exact nmX_ok (by omega)
  · unfold restS at h
    split at h
    · split at h
      · rw [List.mem_singleton.mp h]; decide +kernel
      · cases h
    · rw [List.mem_singleton.mp h]; exact nmX_ok (by omega)
theorem tell_ne (l : List Nat) (place top : Nat) : tellS l place top ≠ [] := by
  unfold tellS restS
  intro h
  have h1 := List.append_eq_nil_iff.mp h
  have h2 : l = [] := List.map_eq_nil_iff.mp h1.1
  rw [h2] at h1
  split at h1
  · rw [if_pos rfl] at h1; exact absurd h1.2 (by simp)
  · exact absurd h1.2 (by simp)
theorem falls_len (w : List Nat) : (fallsL w).length ≤ 6 := List.length_filter_le (fallAt w) (List.range 6)
theorem tell_len (w : List Nat) (place top : Nat) : (tellS (fallsL w) place top).length ≤ 7 := by
  have := falls_len w
  unfold tellS restS
  rw [List.length_append, List.length_map]
  split
  · split <;> simp <;> omega
  · simp; omega
theorem tell_sz {w : List Nat} {place top : Nat} (hp : place < 27) (ht : top < 3) : (Str.join cs (tellS (fallsL w) place top)).length + 2 ≤ sizeLine := by
  have h1 := StrLaws.join_length_le cs (tellS (fallsL w) place top)
  have h2 := sum_le100 fun y hy => (tell_mem (w := w) hp ht y hy).1
  have h3 := tell_len w place top
  rw [cs_len] at h1
  rw [sizeLine_eq]
  omega
theorem split_tell {w : List Nat} {place top : Nat} (hp : place < 27) (ht : top < 3) : Txt.split (Str.join cs (tellS (fallsL w) place top)) cs = tellS (fallsL w) place top :=
  split_join _ (tell_ne _ _ _) fun y hy => (tell_mem hp ht y hy).2
theorem strs_of_map : ∀ (l : List (Str × Tok)), StrsAre (strValues l) (l.map (·.1))
  | [] => .nil
  | p :: r => .cons p.1 p.2 (strs_of_map r)
theorem split_led {prog : Program} {w : World} {A : Around} {E : Value → Shared → Prop} {s : Shared} {h₀ : Heap} {L : Addr} {m : Str → Option Value} {news : List (Addr × Obj)} {wl : List Nat} {place top : Nat} {t u : Tok} {Q : Value → Shared → Prop} (F : Fr h₀ L s.heap m) (N : News h₀ L s.heap news) (hp : place < 27) (ht : top < 3)
    (h : ∀ D vs h' k, Fr h₀ L h' m → News h₀ L h' ((D, listOf (List.toArray vs) 0) :: news) → (∀ p ∈ news, p.1 < D) → StrsAre vs (tellS (fallsL wl) place top) → Q (.ref D) { s with heap := h', toks := k }) :
    wpAny (model prog w) A (call (.builtin "str.split") [.str (Str.join cs (tellS (fallsL wl) place top)) t, .str cs u]) Q E s := by
  refine splitN1 F N (by rw [cs_len]; rfl) (fun l h' k e F' N' => ?_) (tell_sz hp ht)
  refine h _ (strValues l) h' k F' N' (fun p hp => Heap.lt_size (N p hp).1) ?_
  rw [split_tell hp ht] at e
  rw [← e]
  exact strs_of_map l
end Mine
end
section
open PySem PySem.W PyProof.Rows PyProof.V PySem.Spec PySem.Calls PySem.SeqAt
namespace Mine
abbrev OkS (ns : List Str) : Prop := ∀ y ∈ ns, PyData.strOk y = true
theorem s_canLayAll0 : ∀ ns : List Str, OkS ns → PyData.canLayAll0 (ns.map PyData.str) = true
  | [], _ => rfl
  | y :: r, h => by simp [PyData.canLayAll0, PyData.canLay0, s_canLayAll0 r fun y hy => h y (List.mem_cons_of_mem _ hy), h y (List.mem_cons_self ..)]
theorem s_depthAll : ∀ ns : List Str, PyData.depthAll (ns.map PyData.str) = 0
  | [] => rfl
  | _ :: r => by simp [PyData.depthAll, PyData.depth, s_depthAll r]
theorem s_shaped (ns : List Str) (h : OkS ns) : SeqAt.shaped (.list (ns.map PyData.str)) = true := by
  simp [SeqAt.shaped, PyData.canLay0, PyData.depth, s_canLayAll0 ns h, s_depthAll]
theorem s_sameAll : ∀ ns ms : List Str, PySem.Spec.sameAll (ns.map PyData.str) (ms.map PyData.str) = decide (ns = ms)
  | [], [] => by simp [PySem.Spec.sameAll]
  | [], _ :: _ => by simp [PySem.Spec.sameAll]
  | _ :: _, [] => by simp [PySem.Spec.sameAll]
  | a :: r, b :: t => by
    simp only [List.map_cons, PySem.Spec.sameAll, PySem.Spec.same, s_sameAll r t]
    by_cases h : a = b <;> by_cases h' : r = t <;> simp [h, h']
theorem s_same (ns ms : List Str) : PySem.Spec.same (.list (ns.map PyData.str)) (.list (ms.map PyData.str)) = decide (ns = ms) := by
  simp only [PySem.Spec.same]; exact s_sameAll ns ms
theorem s_carried : ∀ {vs : List Value} {ns : List Str}, StrsAre vs ns → CarriedAll vs (ns.map PyData.str)
  | _, _, .nil => .nil
  | _, _, .cons y t r => .cons (.str y t) (s_carried r)
theorem isStr_at (k : Str) : ∀ {vs : List Value} {ns : List Str}, StrsAre vs ns → ∀ (j : Nat) (h1 : j < vs.length) (h2 : j < ns.length), isStrOf k vs[j] = (ns[j] == k)
  | _, _, .cons n t _, 0, _, _ => rfl
  | _, _, .cons n t r, j + 1, h1, h2 => isStr_at k r j (Nat.lt_of_succ_lt_succ h1) (Nat.lt_of_succ_lt_succ h2)
section
variable {prog : Program} {w : World} {A : Around} {E : Value → Shared → Prop} {s : Shared} {a b : Addr} {xs ys : List Value} {ns ms : List Str} {Q : Value → Shared → Prop}
theorem ne_strs (ha : s.heap.IsList a xs.toArray) (hb : s.heap.IsList b ys.toArray) (hi : StrsAre xs ns) (hj : StrsAre ys ms) (hn : OkS ns) (hm : OkS ms) (hu : A.units + 64 < cLine) (h : Q (.bool (!decide (ns = ms))) s) :
    wpAny (model prog w) A (compareOp .NotEq (.ref a) (.ref b)) Q E s :=
  ne_dataH_same (reads_newData ha (s_carried hi)) (reads_newData hb (s_carried hj)) (s_shaped _ hn) (s_shaped _ hm) hu (SeqAt.noMix_of_shape (.list .str) rfl _ _ (list_map_has fun _ => rfl) (list_map_has fun _ => rfl)) (by rw [s_same]; exact h)
theorem index_strs {l : Addr} {vs : List Value} {y : Str} {t : Tok} {j : Nat} (hl : s.heap.IsList l vs.toArray) (hi : StrsAre vs ns) (hn : ns.length ≤ 100) (hj : ns[j]? = some y) (hno : ∀ m, m < j → ns[m]? ≠ some y)
    (h : Q (.int (j : Int) s.toks) { s with toks := s.toks + 1 }) :
    wpAny (model prog w) A (call (.builtin "list.index") [.ref l, .str y t]) Q E s := by
  obtain ⟨⟨cls, dd, data, sl⟩, ho, hc, n, hd⟩ := id hl
  simp only at hc hd
  subst hc hd
  have hlen := hi.length
  have hjl : j < ns.length := (List.getElem?_eq_some_iff.mp hj).1
  refine call_meets PySem.F.slot_list_index ⟨_, ho, rfl⟩ PySem.F.entry_list_index (PySem.F.args_list_index_2 _ _)
    (list_indexAt l vs.toArray n dd sl (.str y t) (isStrOf y) j (by simpa [hlen] using hjl) (by omega) ?_ ?_) ⟨ho, fun z hz => (eq_isStrOf y t hi z (by simpa using hz)).at _ _, h⟩
  · show isStrOf y vs[j] = true
    rw [isStr_at y hi j (by omega) hjl]
    rw [List.getElem?_eq_getElem hjl] at hj
    rw [Option.some.inj hj]
    exact beq_self_eq_true _
  · intro m hms hlt
    show isStrOf y vs[m] = false
    rw [isStr_at y hi m (by simpa using hms) (by omega)]
    have := hno m hlt
    rw [List.getElem?_eq_getElem (by omega)] at this
    exact beq_false_of_ne fun q => this (by rw [q])
end
theorem nmX_str {i : Nat} (h : i < 34) : PyData.strOk (nmX i) = true := by
  have : ∀ i : Fin 34, PyData.strOk (nmX i.val) = true := by decide +kernel
  exact this ⟨i, h⟩
theorem nmX_inj {i j : Nat} (hi : i < 34) (hj : j < 34) (h : nmX i = nmX j) : i = j := by
  have : ∀ i j : Fin 34, nmX i.val = nmX j.val → i = j := by decide +kernel
  exact congrArg Fin.val (this ⟨i, hi⟩ ⟨j, hj⟩ h)
theorem tell_ok {w : List Nat} {place top : Nat} (hp : place < 27) (ht : top < 3) : OkS (tellS (fallsL w) place top) := by
  intro y hy
  rcases List.mem_append.mp hy with h | h
  · obtain ⟨k, hk, rfl⟩ := List.mem_map.mp h
    have := falls_mem w k hk
    exact nmX_str (by omega)
  · unfold restS at h
    split at h
    · split at h
      · rw [List.mem_singleton.mp h]; decide +kernel
      · cases h
    · rw [List.mem_singleton.mp h]; exact nmX_str (by omega)
theorem strs_take : ∀ {vs : List Value} {ns : List Str} (n : Nat), StrsAre vs ns → StrsAre (vs.take n) (ns.take n)
  | _, _, 0, _ => by simp only [List.take_zero]; exact .nil
  | _, _, n + 1, .nil => by simp only [List.take_nil]; exact .nil
  | _, _, n + 1, .cons y t h => by simp only [List.take_succ_cons]; exact .cons y t (strs_take n h)
section
variable {prog : Program} {w : World} {A : Around} {E : Value → Shared → Prop} {s : Shared} {h₀ : Heap} {L : Addr} {m : Str → Option Value} {news : List (Addr × Obj)}
theorem slice_to {value slice : PySem.Expr} {l : Addr} {vs : List Value} {c n : Nat} {u : Tok} {Q : Value → Shared → Prop} (F : Fr h₀ L s.heap m) (N : News h₀ L s.heap news) (hm : (l, listOf vs.toArray c) ∈ news) (hz : vs.length ≤ 100)
    (h : ∀ D h', Fr h₀ L h' m → News h₀ L h' ((D, listOf (vs.take n).toArray 0) :: news) → (∀ p ∈ news, p.1 < D) → Q (.ref D) { s with heap := h' })
    (hs : subscripted slice false (.ref l) (.ref s.heap.objs.size) = operate [.ref s.heap.objs.size, .ref l] (getItem (.ref l) (.ref s.heap.objs.size))) (ht : ∀ r, letTemporaryGo value (.ref l) r = pure ()) :
    wpAny (model prog w) A (subscriptTail value slice (.ref l) (.ref s.heap.objs.size)) Q E { s with heap := s.heap.push { cls := .type "slice", data := .fields #[.none, .int (n : Int) u, .none] } } := by
  have hl : s.heap.IsList l vs.toArray := ⟨_, (N _ hm).1, rfl, c, rfl⟩
  refine kmk_slice (lo := none) (hi := some (n : Int)) F N hl .none (.int ..) (fun D h' F' N' l1 => h D h' F' ?_ l1) hs ht (by rw [List.size_toArray, sizeLine_eq]; omega)
  have e : slicePick vs.toArray none (some (n : Int)) none = (vs.take n).toArray := by
    rw [kmk_pick_nat _ (kms_bounds none (some (n : Int)) vs.toArray.size)]
    have h1 : kms_lo none vs.toArray.size = 0 := rfl
    have h2 : kms_hi (some (n : Int)) vs.toArray.size = min n vs.length := by
      unfold kms_hi
      simp only [List.size_toArray]
      rw [if_neg (Int.not_lt.mpr (Int.natCast_nonneg n))]
      rfl
    rw [h1, h2]
    simp only [List.drop_zero, Nat.sub_zero]
    congr 1
    rw [List.take_eq_take_iff]
    exact Nat.min_eq_left (Nat.min_le_right ..)
  rw [e] at N'
  exact N'
theorem len_mem {D : Addr} {ys : List Value} {c : Nat} {Q : Value → Shared → Prop} (N : News h₀ L s.heap news) (hm : (D, listOf ys.toArray c) ∈ news) (hfit : ys.length ≤ 1000)
    (h : ∀ t, Q (.int (ys.length : Int) t) { s with toks := s.toks + 1 + 1 }) : wpAny (model prog w) A (call (.builtin "len") [.ref D]) Q E s := by
  have hl : s.heap.IsList D ys.toArray := ⟨_, (N _ hm).1, rfl, c, rfl⟩
  refine len_list hl ?_ ?_
  · rw [List.size_toArray]; omega
  · rw [List.size_toArray]; exact h _
theorem strs_get : ∀ {vs : List Value} {ns : List Str} {j : Nat} {y : Str}, StrsAre vs ns → ns[j]? = some y → ∃ t, vs[j]? = some (.str y t)
  | _, _, 0, _, .cons y t _, h => by simp at h; subst h; exact ⟨t, rfl⟩
  | _, _, j + 1, _, .cons _ _ r, h => by
    obtain ⟨t', h'⟩ := strs_get (j := j) r h
    exact ⟨t', h'⟩
theorem get_str {value slice : PySem.Expr} {D : Addr} {ys : List Value} {c j : Nat} {ns : List Str} {y : Str} {k : Int} {u : Tok} {Q : Value → Shared → Prop} (N : News h₀ L s.heap news) (hm : (D, listOf ys.toArray c) ∈ news) (hS : StrsAre ys ns) (hp : ns[j]? = some y) (hk : k = (j : Int)) (hl : ns.length ≤ 100) (h : ∀ t, Q (.str y t) s)
    (hs : subscripted slice false (.ref D) (.int k u) = operate [.ref D, .int k u] (getItem (.ref D) (.int k u))) :
    wpAny (model prog w) A (subscriptTail value slice (.ref D) (.int k u)) Q E s := by
  obtain ⟨t, ht⟩ := strs_get hS hp
  have hj : j < ys.length := (List.getElem?_eq_some_iff.mp ht).1
  have := hS.length
  subst hk
  have hl' : s.heap.IsList D ys.toArray := ⟨_, (N _ hm).1, rfl, c, rfl⟩
  exact item_made hl' (by omega) (by omega) (v := .str y t) (by rw [Int.toNat_natCast]; simpa using ht) (h t) hs
theorem mul_opt {l : Addr} {v : Value} {c top : Nat} {u : Tok} {Q : Value → Shared → Prop} (F : Fr h₀ L s.heap m) (N : News h₀ L s.heap news) (hm : (l, listOf #[v] c) ∈ news) (ht : top < 3)
    (h : ∀ D h', Fr h₀ L h' m → News h₀ L h' ((D, listOf (List.toArray (if top = 0 then [] else [v])) 0) :: news) → (∀ p ∈ news, p.1 < D) → Q (.ref D) { s with heap := h' }) :
    wpAny (model prog w) A (binaryOp .Mult (.ref l) (.int (if (1 : Int) < (top : Int) then 1 else (top : Int)) u)) Q E s := by
  have hl : s.heap.IsList l ([v] : List Value).toArray := ⟨_, (N _ hm).1, rfl, c, rfl⟩
  have h3 : top = 0 ∨ top = 1 ∨ top = 2 := by omega
  rcases h3 with rfl | rfl | rfl
  · exact PySem.W.KMa.mul F N hl (by decide) (by decide) (by rw [List.length_singleton]; decide) (ws := []) rfl fun D h' F' N' l1 => h D h' F' N' l1
  · exact PySem.W.KMa.mul F N hl (by decide) (by decide) (by rw [List.length_singleton]; decide) (ws := [v]) rfl fun D h' F' N' l1 => h D h' F' N' l1
  · exact PySem.W.KMa.mul F N hl (by decide) (by decide) (by rw [List.length_singleton]; decide) (ws := [v]) rfl fun D h' F' N' l1 => h D h' F' N' l1
theorem add_led {l b : Addr} {vs ws : List Value} {c c' : Nat} {Q : Value → Shared → Prop} (F : Fr h₀ L s.heap m) (N : News h₀ L s.heap news) (hm : (l, listOf vs.toArray c) ∈ news) (hm' : (b, listOf ws.toArray c') ∈ news) (hsz : vs.length + ws.length ≤ 1000)
    (h : ∀ D h', Fr h₀ L h' m → News h₀ L h' ((D, listOf (List.toArray (vs ++ ws)) 0) :: news) → (∀ p ∈ news, p.1 < D) → Q (.ref D) { s with heap := h' }) :
    wpAny (model prog w) A (binaryOp .Add (.ref l) (.ref b)) Q E s :=
  add_lists F N ⟨_, (N _ hm).1, rfl, c, rfl⟩ ⟨_, (N _ hm').1, rfl, c', rfl⟩ (fun h' F' N' => h _ h' F' N' fun p hp => Heap.lt_size (N p hp).1) (by rw [sizeLine_eq]; omega)
theorem truthy_mem {l : Addr} {vs : List Value} {c : Nat} {Q : Bool → Shared → Prop} (N : News h₀ L s.heap news) (hm : (l, listOf vs.toArray c) ∈ news) (hsz : vs.length ≤ 1000)
    (h : Q (!vs.isEmpty) { s with toks := s.toks + 1 + 1 }) : wpAny (model prog w) A (truthy (.ref l)) Q E s := by
  refine PySem.wpAny_truthy_list ⟨_, (N _ hm).1, rfl, c, rfl⟩ (by rw [List.size_toArray]; omega) ?_
  have e : (!vs.toArray.isEmpty) = !vs.isEmpty := by simp
  rw [e]
  exact h
theorem ne_tell {a b : Addr} {xs ys : List Value} {c c' : Nat} {ns : List Str} {Q : Value → Shared → Prop} (N : News h₀ L s.heap news) (hm : (a, listOf xs.toArray c) ∈ news) (hm' : (b, listOf ys.toArray c') ∈ news) (hi : StrsAre xs ns) (hj : StrsAre ys ns) (hn : OkS ns) (hu : A.units + 64 < cLine) (h : Q (.bool false) s) :
    wpAny (model prog w) A (compareOp .NotEq (.ref a) (.ref b)) Q E s :=
  ne_strs ⟨_, (N _ hm).1, rfl, c, rfl⟩ ⟨_, (N _ hm').1, rfl, c', rfl⟩ hi hj hn hn hu (by simpa using h)
end
theorem strs_glue' {vs ws : List Value} {a b : List Str} (ha : StrsAre vs a) (hb : StrsAre ws b) : StrsAre (vs ++ ws) (a ++ b) := by
  induction ha with
  | nil => exact hb
  | cons y t _ ih => exact .cons y t ih
theorem tell_full {ys : List Value} {l : List Nat} {place top : Nat} {t : Tok} (hD : StrsAre ys (l.map fun (j : Nat) => nmX (place + j))) (h : (ys ++ if top = 0 then [] else [Value.str (nmX (31 + top)) t]).isEmpty = false) : StrsAre (ys ++ if top = 0 then [] else [Value.str (nmX (31 + top)) t]) (tellS l place top) := by
  unfold tellS
  refine strs_glue' hD ?_
  unfold restS
  by_cases h0 : top = 0
  · rw [if_pos h0] at h ⊢
    rw [if_pos h0, if_neg]
    · exact .nil
    · rintro rfl
      cases hD
      simp at h
  · rw [if_neg h0, if_neg h0]
    exact .cons _ _ .nil
theorem tell_empty {ys : List Value} {l : List Nat} {place top : Nat} {t : Tok} (hD : StrsAre ys (l.map fun (j : Nat) => nmX (place + j))) (h : (ys ++ if top = 0 then [] else [Value.str (nmX (31 + top)) t]).isEmpty = true) : tellS l place top = [Str.ofString "0x0"] := by
  have h1 := List.append_eq_nil_iff.mp (List.isEmpty_iff.mp h)
  have h0 : top = 0 := by
    by_cases q : top = 0
    · exact q
    · rw [if_neg q] at h1; exact absurd h1.2 (by simp)
  have hl : l = [] := by
    have h2 := hD.length
    rw [h1.1, List.length_map] at h2
    exact List.eq_nil_of_length_eq_zero h2.symm
  subst h0 hl
  rfl
theorem tell_take {ys vs : List Value} {l : List Nat} {place top : Nat} (hD : StrsAre ys (l.map fun (j : Nat) => nmX (place + j))) (hT : StrsAre vs (tellS l place top)) : StrsAre (vs.take ys.length) (l.map fun (j : Nat) => nmX (place + j)) := by
  have h := strs_take ys.length hT
  have e : (tellS l place top).take ys.length = l.map fun (j : Nat) => nmX (place + j) := by
    unfold tellS
    rw [hD.length]
    exact List.take_left
  rwa [e] at h
theorem strs_inv : ∀ {vs : List Value} {ns : List Str} {j : Nat} {v : Value}, StrsAre vs ns → vs[j]? = some v → ∃ y t, ns[j]? = some y ∧ v = .str y t
  | _, _, 0, _, .cons y t _, h => by simp at h; subst h; exact ⟨y, t, rfl, rfl⟩
  | _, _, j + 1, _, .cons _ _ r, h => by
    obtain ⟨y, t, h1, h2⟩ := strs_inv (j := j) r h
    exact ⟨y, t, h1, h2⟩
theorem tell_at {vs : List Value} {l : List Nat} {place i : Nat} {v : Value} (h : StrsAre vs (l.map fun (j : Nat) => nmX (place + j))) (hv : vs.toArray[i]? = some v) : ∃ k t, l[i]? = some k ∧ v = .str (nmX (place + k)) t := by
  obtain ⟨y, t, h1, h2⟩ := strs_inv (j := i) h (by simpa using hv)
  rw [List.getElem?_map] at h1
  cases hq : l[i]? with
  | none => rw [hq] at h1; cases h1
  | some k =>
    rw [hq] at h1
    have : nmX (place + k) = y := by simpa using h1
    exact ⟨k, t, rfl, by rw [h2, this]⟩
theorem nm_at {j : Nat} (h : j < 34) : ((List.range 34).map nmX)[j]? = some (nmX j) := by rw [List.getElem?_map, List.getElem?_range h]; rfl
theorem nm_no {j : Nat} (h : j < 34) : ∀ m, m < j → ((List.range 34).map nmX)[m]? ≠ some (nmX j) := fun m hm q => by
  rw [nm_at (by omega)] at q
  have := nmX_inj (by omega) h (Option.some.inj q)
  omega
end Mine
end
section
open PySem PySem.W PyProof.Rows PyProof.Rows.LCg
set_option maxHeartbeats 8000000
set_option pp.deepTerms false
set_option pp.maxSteps 3000
namespace Mine

theorem fall_iff {x : Str} {i c d : Nat} (hc : (cl x)[i]? = some c) (hd : (cl x)[i + 1]? = some d) : strcoll ⟨#[c]⟩ ⟨#[d]⟩ = 1 ↔ fallAt (cl x) i = true := by
  rw [strcoll_one]
  unfold fallAt
  rw [List.getD_eq_getElem?_getD, List.getD_eq_getElem?_getD, hc, hd]
  simp only [Option.getD_some, decide_eq_true_eq]
  by_cases h1 : d < c
  · have h2 : ¬ c < d := by omega
    simp [h1, h2, b2i]
  · by_cases h2 : c < d <;> simp [h1, h2, b2i]
theorem ix_lt {c d : Nat} (hc : Lt c) (hd : Lt d) : ixC d < ixC c ↔ d < c := by
  rcases hc with rfl | rfl | rfl | rfl <;> rcases hd with rfl | rfl | rfl | rfl <;> decide
theorem fall_ix {x : Str} {i c d : Nat} (hc : (cl x)[i]? = some c) (hd : (cl x)[i + 1]? = some d) (hLc : Lt c) (hLd : Lt d) : ixC d < ixC c ↔ fallAt (cl x) i = true := by
  rw [ix_lt hLc hLd]
  unfold fallAt
  rw [List.getD_eq_getElem?_getD, List.getD_eq_getElem?_getD, hc, hd]
  simp
theorem tell_vl {vs : List Value} {w : List Nat} {place top : Nat} (h : StrsAre vs (tellS (fallsL w) place top)) : vs.length ≤ 100 := by
  rw [h.length]; have := tell_len w place top; omega
theorem item_codeZ {prog : Program} {w : World} {A : Around} {E : Value → Shared → Prop} {s : Shared} {value slice : PySem.Expr} {x : Str} {t : Tok} {k : Int} {j c : Nat} {u : Tok} {Q : Value → Shared → Prop} (hc : (cl x)[j]? = some c) (hk : k = (j : Int)) (hx : x.length ≤ 7) (h : ∀ t tk, Q (.str ⟨#[c]⟩ t) { s with toks := tk })
    (hs : subscripted slice false (.str x t) (.int k u) = operate [.str x t, .int k u] (getItem (.str x t) (.int k u)))
    (ht : ∀ r, letTemporaryGo value (.str x t) r = pure ()) :
    wpAny (model prog w) A (subscriptTail value slice (.str x t) (.int k u)) Q E s := by
  subst hk
  exact item_code hc hx h hs ht
theorem elE {i : Nat} (h : i < 24) : (Str.ofString "0x" ++ Txt.item (Str.ofString "1248") ((10 + (i : Int)).fmod 4) ++ Txt.mul (Str.ofString "0") ((10 + (i : Int)).fdiv 4)) = nmX (10 + i) := by
  have : ∀ i : Fin 24, (Str.ofString "0x" ++ Txt.item (Str.ofString "1248") ((10 + (i.val : Int)).fmod 4) ++ Txt.mul (Str.ofString "0") ((10 + (i.val : Int)).fdiv 4)) = nmX (10 + i.val) := by decide +kernel
  exact this ⟨i, h⟩
theorem szE {i : Nat} (h : i < 24) : (Str.ofString "0x" ++ Txt.item (Str.ofString "1248") ((10 + (i : Int)).fmod 4)).length + (Txt.mul (Str.ofString "0") ((10 + (i : Int)).fdiv 4)).length ≤ sizeLine := by
  have : ∀ i : Fin 24, (Str.ofString "0x" ++ Txt.item (Str.ofString "1248") ((10 + (i.val : Int)).fmod 4)).length + (Txt.mul (Str.ofString "0") ((10 + (i.val : Int)).fdiv 4)).length ≤ 100 := by decide +kernel
  have := this ⟨i, h⟩
  rw [sizeLine_eq]
  simp only at this
  omega
theorem strs_glue : ∀ {vs ws : List Value}, StrsAre vs ((List.range 10).map nmX) → StrsAre ws ((List.range 24).map fun j => nmX (10 + j)) → StrsAre (vs ++ ws) ((List.range 34).map nmX) := by
  intro vs ws h1 h2
  have app : ∀ {vs ws : List Value} {a b : List Str}, StrsAre vs a → StrsAre ws b → StrsAre (vs ++ ws) (a ++ b) := by
    intro vs ws a b ha hb
    induction ha with
    | nil => exact hb
    | cons y t _ ih => exact .cons y t ih
  exact app h1 h2
theorem store_cell {prog : Program} {w : World} {A : Around} {E : Value → Shared → Prop} {s : Shared} {h₀ : Heap} {L : Addr} {m : Str → Option Value} {env : Env} {x : Str} {c l : Addr} {lo oc : Obj} {uc : Option Value} {v : Value} {rest : List (Addr × Obj)} {Q : Unit → Shared → Prop}
    (hk : env.scope.kind = .function) (hx : env.kindOf x = some .cell) (hcl : env.cells.lookup x = some c) (F : Fr h₀ L s.heap m) (N : News h₀ L s.heap ((l, lo) :: (c, oc) :: rest)) (hoc : oc.data = .cell uc) (hlc : @Ne Nat l c) (hne : ∀ p ∈ rest, @Ne Nat p.1 c)
    (h : ∀ h' o', o'.data = .cell (some v) → Fr h₀ L h' m → News h₀ L h' ((l, lo) :: (c, o') :: rest) → Q () { s with heap := h' }) :
    wpAny (model prog w) A (storeName env x v) Q E s := by
  have hc := N (c, oc) (List.mem_cons_of_mem _ (List.mem_cons_self ..))
  refine PySem.wpAny_storeName_cell hk hx hcl ⟨oc, hc.1, hoc⟩ fun h₂ hc₂ hs₂ => ?_
  obtain ⟨o', ho', hd'⟩ := hc₂
  refine h h₂ o' hd' (F.change hs₂ hc.2.1 hc.2.2) fun p hp => ?_
  rcases List.mem_cons.mp hp with rfl | hp
  · have z := N (l, lo) (List.mem_cons_self ..)
    exact ⟨hs₂.extBut _ _ hlc z.1, z.2⟩
  · rcases List.mem_cons.mp hp with rfl | hp
    · exact ⟨ho', hc.2⟩
    · have z := N p (List.mem_cons_of_mem _ (List.mem_cons_of_mem _ hp))
      exact ⟨hs₂.extBut _ _ (hne p hp) z.1, z.2⟩
theorem c88 (w : World) (mean : ExcName → Option Value) (mg mb : Str → Option Value) (word : Str) (place top : Nat) (ta tb tc : Tok) (hw7 : word.length = 7) (hS : Signs word) (hp : place < 27) (ht : top < 3) :
  CL w mean mg mb 88 6 200 [.str word ta, .int (place : Int) tb, .int (top : Int) tc] (fun t => .int ((fallsL (cl word)).map fun (k : Nat) => (k : Int) + 1).sum t) := by
  dsimp only [CL]; w_top off; k_with_none; k_fill
  k_with "eval ListComp" => (k_here; k_dflt (refine ListComp_J (hs := by intro _; rfl) (_F₀ := by k_asm) (by with_unfolding_all rfl) (by decide) (by rfl) (by decide) ?_); k_whole)
  k_with "exec Assign cons ListComp" => (k_here; k_dflt (refine Assign_ListComp_J (hs := by intro _; rfl) (_F₀ := by k_asm) (by rfl) (by with_unfolding_all rfl) (by with_unfolding_all rfl) (by decide) (by rfl) (by decide) (by rfl) (by rfl) ?_); k_whole)
  k_with "pyIter ref" => (k_here; refine stopW ?_)
  k_with "pyIter str" => (k_here; refine stopW ?_)
  k_with "subscriptTail" => (k_here; (with_reducible show wpAny _ _ (subscriptTail _ _ (Value.str _ _) (Value.int _ _)) _ _ _); first | ((rename (_[_ + 1]? = some _) => hp9w4); k_dflt (refine item_codeZ (hs := by with_unfolding_all rfl) (ht := by intro _; with_unfolding_all rfl) hp9w4 (by omega) (by assumption) ?_); k_whole; intro _ _) | ((rename (_[_]? = some _) => hp8w4); k_dflt (refine item_codeZ (hs := by with_unfolding_all rfl) (ht := by intro _; with_unfolding_all rfl) (by assumption) (by omega) (by assumption) ?_); k_whole; intro _ _))
  k_with "subscriptTail Name Name str int" => (k_here; (rename (_[_]? = some _) => hp9w5); k_dflt (refine item_codeZ (hs := by with_unfolding_all rfl) (ht := by intro _; with_unfolding_all rfl) hp9w5 (by omega) (by assumption) ?_); k_whole; intro _ _)
  k_with "subscriptTail Name BinOp str int" => (k_here; (rename (_[_ + 1]? = some _) => hp9w6); k_dflt (refine item_codeZ (hs := by with_unfolding_all rfl) (ht := by intro _; with_unfolding_all rfl) hp9w6 (by omega) (by assumption) ?_); k_whole; intro _ _)
  k_with "call builtin:str.index" => (k_here; (refine index_sign (by rfl) (by assumption) ?_); k_whole)
  k_with "call builtin:str.split" => (k_here; (rename Fr _ _ _ _ => lFqw8); (rename News _ _ _ _ => lNqw8); k_dflt (refine split_led lFqw8 lNqw8 (by assumption) (by assumption) ?_); k_whole; intro _ _ _ _ _ _ _ _)
  k_with "binaryOp Mult ref int" => (k_here; (rename Fr _ _ _ _ => lFqw9); (rename News _ _ _ _ => lNqw9); k_dflt (refine mul_opt lFqw9 lNqw9 (by k_mem) (by assumption) ?_); k_whole; intro _ _ _ _ _)
  k_with "binaryOp Add ref ref" => (k_here; (rename Fr _ _ _ _ => lFqw10); (rename News _ _ _ _ => lNqw10); k_dflt (refine add_led lFqw10 lNqw10 (by k_mem) (by k_mem) ((by assumption : ∀ v : Value, _ + (if _ = 0 then [] else [v]).length ≤ 1000) _) ?_); k_whole; intro _ _ _ _ _)
  k_with "truthy ref" => (k_here; (rename News _ _ _ _ => lNqw11); k_dflt (refine truthy_mem lNqw11 (by k_mem) ((by assumption : ∀ v : Value, (_ ++ (if _ = 0 then [] else [v])).length ≤ 1000) _) ?_); k_whole)
  k_with "compareOp NotEq ref ref" => (k_here; refine stopW ?_)
  k_with "call builtin:len" => (k_here; (rename News _ _ _ _ => lNqw13); k_dflt (refine len_mem lNqw13 (by k_mem) (by omega) ?_); k_whole; intro _)
  k_with "subscriptTail Name Slice ref ref" => (k_here; (rename Fr _ _ _ _ => lFqw14); (rename News _ _ _ _ => lNqw14); k_dflt (refine slice_to (hs := by with_unfolding_all rfl) (ht := by intro _; with_unfolding_all rfl) (s := ⟨_, _, _, _, _⟩) lFqw14 lNqw14 (by k_mem) (by assumption) ?_); k_whole; intro _ _ _ _ _)
  k_with "call builtin:list.index" => (k_here; (rename News _ _ _ _ => lNqw15); (rename (_[_]? = some (nmX _)) => hp9w15); (rename (∀ m, m < _ → _ ≠ some (nmX _)) => hno9w15); k_dflt (refine index_strs ⟨_, (lNqw15 (_, listOf _ _) (by k_mem)).1, rfl, _, rfl⟩ (by assumption) (by simp) hp9w15 hno9w15 ?_); k_whole)
  k_with "subscriptTail Name BinOp ref int" => (k_here; (rename News _ _ _ _ => lNqw16); (rename (_[_]? = some (nmX _)) => hp9w16); k_dflt (refine get_str (hs := by with_unfolding_all rfl) lNqw16 (by k_mem) (by assumption) hp9w16 (by omega) (by simp) ?_); k_whole; intro _)
  k_with "call ref" => (k_here; k_dflt (refine' c21 _ _ _ _ _ _ _ _ _ _ _ _ _ _ _ _ _ _ _ _ _ _ _ _ _ _ (by k_asm) (by k_asm) (by k_asm) (by k_asm) (by k_asm) (by first | exact rfl | assumption) (by ktr_room) (by ktr_units) ?_; k_whole); intro t9w17 h9w17 tk9w17 F9w17 N9w17; (try dsimp only); (try k_fold))
  k_with "binaryOp Add str str" => (k_here; (refine add_str (fun _ _ => ?_) (szE (by assumption))); k_whole)
  intro news dp un gd cn cs a0 ccd cl0 outer A₀ base h₀ L m s Q E hB hF0 hX hN hT hk hd hu hret
  refine wpAny_call ?_
  k_dflt (refine' code_defC (binds := [(Str.ofString "word", .str word ta), (Str.ofString "place", .int (place : Int) tb), (Str.ofString "top", .int (top : Int) tc)]) ?k1 ?k2 ?k3 ?k4 ?k5 ?kA ?kF ?kK ?k6 ?k7 ?k8 ?k9 ?kB ?kD ?_ ?c2 ?c3 ?c4; (case kA => exact rfl); (case kF => exact rfl); (case kK => assumption); (case k1 => k_asm); (case k2 => k_asm); (case k3 => k_asm); (case k4 => k_asm); (case k5 => k_asm); (case k6 => k_is); (case k7 => k_is); (case k8 => ktr_room); (case k9 => exact BindsTo.of_eq rfl); (case kB => exact rfl); (case kD => decide +kernel); (case c2 => exact rfl); (case c3 => exact rfl); (case c4 => exact rfl); k_whole; intro g' L' h' tk' cells' FG' F' N' Y' B' X' T' l1; (try k_lt l1))
  obtain ⟨o0, o1, o2, rfl, ho0, ho1, ho2⟩ := CellsAre.three Y'
  clear Y'
  replace F' : Fr g' L' h' (fun y => if y = Str.ofString "top" then some (.int (top : Int) tc) else none) := by with_unfolding_all exact F'
  replace ho0 : o0.data = .cell none := by with_unfolding_all exact ho0
  replace ho1 : o1.data = .cell (some (.int (place : Int) tb)) := by with_unfolding_all exact ho1
  replace ho2 : o2.data = .cell (some (.str word ta)) := by with_unfolding_all exact ho2
  (try simp only [List.cons_append, List.nil_append] at N')
  (try dsimp only)
  (try k_lift B')
  (try k_fold)
  k_steps
  rename Fr _ _ _ _ => lF'
  rename News _ _ _ _ => lN'
  refine with_led lN' fun D us0 c0 e1 e2 e3 => ?_
  subst e1
  rename (_ ∧ _) => hlts
  have hDn : ∀ p ∈ (L' + 1 + 1 + 1, o0) :: (L' + 1 + 1, o1) :: (L' + 1, o2) :: news, p.1 < D := fun p hp => by
    simp only [List.mem_cons] at hp
    rcases hp with rfl | rfl | rfl | hp
    · exact hlts.1
    · exact hlts.2.1
    · exact hlts.2.2.1
    · exact Nat.lt_trans (l1 p hp) (Nat.lt_of_succ_lt hlts.2.2.1)
  refine store_cell (by rfl) (by rfl) (by rfl) lF' lN' ho0 (Nat.ne_of_gt hlts.1) (fun p hp => ?_) ?_
  · simp only [List.mem_cons] at hp
    rcases hp with rfl | rfl | hp
    · exact Nat.ne_of_lt (Nat.lt_succ_self _)
    · exact Nat.ne_of_lt (Nat.lt_succ_of_lt (Nat.lt_succ_self _))
    · exact Nat.ne_of_lt (Nat.lt_of_lt_of_le (l1 p hp) (Nat.le_add_right _ 3))
  clear lF' lN' ho0
  have hu0 : StrsAre us0 ((List.range 10).map nmX) := by
    subst e2
    exact .cons _ _ (.cons _ _ (.cons _ _ (.cons _ _ (.cons _ _ (.cons _ _ (.cons _ _ (.cons _ _ (.cons _ _ (.cons _ _ .nil)))))))))
  have hDn' : ∀ p ∈ (L' + 1 + 1 + 1, o0) :: (L' + 1 + 1, o1) :: (L' + 1, o2) :: news, p.1 < D := hDn
  have hu10 : us0.length = 10 := by rw [hu0.length]; rfl
  clear hDn' hDn
  intro h5 o0 ho0 F5 N5
  replace N5 : News g' L' h5 ((D, listOf us0.toArray c0) :: (L' + 1 + 1 + 1, o0) :: (L' + 1 + 1, o1) :: (L' + 1, o2) :: news) := by rw [e2, e3]; exact N5
  clear e2 e3
  have hDn' : ∀ p ∈ (L' + 1 + 1 + 1, o0) :: (L' + 1 + 1, o1) :: (L' + 1, o2) :: news, p.1 < D := fun p hp => by
    simp only [List.mem_cons] at hp
    rcases hp with rfl | rfl | rfl | hp
    · exact hlts.1
    · exact hlts.2.1
    · exact hlts.2.2.1
    · exact Nat.lt_trans (l1 p hp) (Nat.lt_of_succ_lt hlts.2.2.1)
  (try dsimp only)
  (try k_fold)
  k_steps
  unfold StopW
  rename Fr _ _ _ _ => lF'
  rename News _ _ _ _ => lN'
  refine comp_range (n := 24) (by rfl) lF' lN' (by assumption) (by decide) (by decide) (by rfl) (by rfl) (fun i ys => StrsAre ys ((List.range i).map fun j => nmX (10 + j))) .nil (fun i ys hi hy => ?len) ?cturn ?cdone
  case len => rw [hy.length, List.length_map, List.length_range, PySem.sizeLine_eq]; omega
  case cturn =>
    clear lF' lN'
    unfold JTurn
    rintro C D2 i2 ys m₂ oC h2 tk2 own2 E2 hi2 hJ2 ⟨t2, hx2⟩ hoC FF2 NN2
    refine wpAny_tests_nil ?_
    simp only [if_true]
    (try simp only [List.cons_append] at NN2)
    k_steps
    refine ⟨_, _, oC, m₂, rfl, by assumption, by assumption, hoC, trivial, ?_⟩
    show StrsAre _ ((List.range (i2 + 1)).map fun j => nmX (10 + j))
    rw [List.range_succ, List.map_append, elE hi2]
    exact strs_snoc hJ2
  case cdone =>
    clear lF' lN'
    intro g D2 ys hy hlt
    unfold FinEJ
    intro h2 tk2 FF2 NN2 hlt2
    have hy24 : ys.length = 24 := by rw [hy.length]; simp
    (try dsimp only)
    (try k_fold)
    k_steps
    rename Fr _ _ _ _ => lF'
    rename News _ _ _ _ => lN'
    have hD2 : @Ne Nat D2 D := Nat.ne_of_gt (hlt2 (D, _) (List.mem_cons_self ..))
    refine kl_extend (its := us0.toArray) (n := c0) (its2 := ys.toArray) (n2 := ys.length) (l := us0 ++ ys) (news' := (D2, lst ys) :: (D, listOf (us0 ++ ys).toArray (c0 + 1)) :: (L' + 1 + 1 + 1, o0) :: (L' + 1 + 1, o1) :: (L' + 1, o2) :: news) lF' lN' (List.mem_cons_self ..) (by simp) (by simp [hy24]) (.tail hD2 (.head fun p hp => Nat.ne_of_lt (hDn' p hp))) ?xd (by simp [hu10, sizeLine_eq]) (by simp [hu10, hy24, sizeLine_eq]) ?_
    case xd => simp [Builtin.List.listTooLong, hu10, hy24, sizeLine_eq]
    clear lF' lN'
    intro h3 F3 N3
    have hnv : StrsAre (us0 ++ ys) ((List.range 34).map nmX) := strs_glue hu0 hy
    generalize us0 ++ ys = nv at hnv N3
    (try dsimp only)
    (try k_fold)
    k_steps
    unfold StopW
    rename Fr _ _ _ _ => lF'
    rename News _ _ _ _ => lN'
    refine comp_range (n := 6) (by rfl) lF' lN' (by assumption) (by decide) (by decide) (by rfl) (by rfl) (fun i ys => IntsAre ys (((List.range i).filter (fallAt (cl word))).map fun (j : Nat) => (j : Int))) .nil (fun i ys hi hy => ?flen) ?fturn ?fdone
    case flen =>
      rw [hy.length, List.length_map, PySem.sizeLine_eq]
      have := List.length_filter_le (fallAt (cl word)) (List.range i)
      rw [List.length_range] at this
      omega
    case fturn =>
      clear lF' lN'
      unfold JTurn
      rintro C D3 i3 ys3 m₃ oC3 hh3 tk3 own3 E3 hi3 hJ3 ⟨t3, hx3⟩ hoC3 FF3 NN3
      have hwl : (cl word).length = 7 := by rw [cl_len, hw7]
      obtain ⟨d, hd3⟩ : ∃ d, (cl word)[i3 + 1]? = some d := ⟨_, List.getElem?_eq_getElem (by omega)⟩
      obtain ⟨c, hc⟩ : ∃ c, (cl word)[i3]? = some c := ⟨_, List.getElem?_eq_getElem (by omega)⟩
      have hw7' : word.length ≤ 7 := by omega
      refine wpAny_tests_one ?_
      simp only [List.cons_append, Int.zero_add] at NN3 hx3
      k_steps
      · rename (strcoll _ _ = 1) => hst
        have hfa := (fall_iff (by assumption) (by assumption)).mp hst
        refine ⟨_, _, oC3, m₃, rfl, by assumption, by assumption, hoC3, trivial, ?_⟩
        show IntsAre _ (((List.range (i3 + 1)).filter (fallAt (cl word))).map fun (j : Nat) => (j : Int))
        rw [List.range_succ, List.filter_append, List.filter_cons_of_pos hfa, List.filter_nil, List.map_append]
        exact snocI hJ3 rfl
      · rename (strcoll _ _ ≠ 1) => hst
        have hfa : ¬ fallAt (cl word) i3 = true := fun q => hst ((fall_iff (by assumption) (by assumption)).mpr q)
        refine ⟨_, _, ys3, oC3, m₃, rfl, by assumption, by assumption, hoC3, trivial, ?_⟩
        show IntsAre _ (((List.range (i3 + 1)).filter (fallAt (cl word))).map fun (j : Nat) => (j : Int))
        rw [List.range_succ, List.filter_append, List.filter_cons_of_neg hfa, List.filter_nil, List.append_nil]
        exact hJ3
    case fdone =>
      clear lF' lN'
      intro g3 D3 ys3 hy3 hlt3
      unfold FinAJ
      intro h4 tk4 FF4 NN4 hlt4
      have hfl6 : ∀ k ∈ (List.range 6).filter (fallAt (cl word)), k < 6 := fun k hk => List.mem_range.mp (List.mem_filter.mp hk).1
      have hfln : ((List.range 6).filter (fallAt (cl word))).length ≤ 6 := List.length_filter_le (fallAt (cl word)) (List.range 6)
      have hfa : (List.range 6).filter (fallAt (cl word)) = fallsL (cl word) := rfl
      rw [hfa] at hy3 hfl6 hfln
      have hyl3 : ys3.length = (fallsL (cl word)).length := by rw [hy3.length, List.length_map]
      (try dsimp only)
      (try k_fold)
      k_steps
      unfold StopW
      rename Fr _ _ _ _ => lF'
      rename News _ _ _ _ => lN'
      refine comp_list (its := ys3.toArray) (by rfl) lF' lN' (.inr ⟨_, List.mem_cons_self .., rfl, _, rfl⟩) (by rfl) (by rfl) (fun i ys => IntsAre ys (((fallsL (cl word)).take i).map fun (k : Nat) => (2 : Int) ^ (place + k))) .nil (fun i ys hi hy => ?plen) ?pturn ?pdone
      case plen =>
        rw [hy.length, List.length_map, PySem.sizeLine_eq, List.length_take]
        omega
      case pturn =>
        clear lF' lN'
        unfold JTurn
        rintro C D4 i4 ys4 m₄ oC4 hh4 tk5 own4 E4 hi4 hJ4 ⟨v4, hv4, hx4⟩ hoC4 FF5 NN5
        obtain ⟨n4, t4, rfl, hn4⟩ := IntsAre.at hy3 i4 v4 (by simpa using hv4)
        obtain ⟨k4, hk4, rfl⟩ : ∃ k, (fallsL (cl word))[i4]? = some k ∧ ((k : Nat) : Int) = n4 := by
          rw [List.getElem?_map] at hn4
          cases hq : (fallsL (cl word))[i4]? with
          | none => rw [hq] at hn4; cases hn4
          | some k => rw [hq] at hn4; exact ⟨k, rfl, by simpa using hn4⟩
        have hk46 : k4 < 6 := hfl6 k4 (List.mem_of_getElem? hk4)
        refine wpAny_tests_nil ?_
        simp only [if_true]
        simp only [List.cons_append] at NN5
        k_steps
        refine ⟨_, _, oC4, m₄, rfl, by assumption, by assumption, hoC4, trivial, ?_⟩
        show IntsAre _ (((fallsL (cl word)).take (i4 + 1)).map fun (k : Nat) => (2 : Int) ^ (place + k))
        rw [List.take_add_one, hk4, List.map_append]
        exact snocI hJ4 (by rw [show ((place : Int) + (k4 : Int)).toNat = place + k4 by omega])
      case pdone =>
        clear lF' lN'
        intro g5 D5 ys5 hy5 hlt5
        unfold FinEJ
        intro h6 tk6 FF6 NN6 hlt6
        have hy5' : IntsAre ys5 ((fallsL (cl word)).map fun (k : Nat) => (2 : Int) ^ (place + k)) := by
          have : ys3.toArray.size = (fallsL (cl word)).length := by simpa using hyl3
          rw [this, List.take_length] at hy5
          exact hy5
        (try dsimp only)
        (try k_fold)
        k_steps
        k_dflt (refine' c36z w mean mg mb _ (flagsN (fallsL (cl word)) place top) _ (flags_cast _ _ _) (flags_lt hp ht) _ _ _ _ _ _ _ _ _ _ _ _ _ _ _ _ _ _ (by k_asm) (by k_asm) (by k_asm) (by k_asm) (by k_asm) (by first | exact rfl | assumption) (by ktr_room) (by ktr_units) ?_; k_whole)
        intro t9 h9 tk9 F9 N9
        rw [pfN_flags hp ht]
        (try dsimp only)
        (try k_fold)
        k_steps
        unfold StopW
        rename Fr _ _ _ _ => lF'
        rename News _ _ _ _ => lN'
        rename StrsAre _ (tellS _ _ _) => hTell
        have hwl : (cl word).length = 7 := by rw [cl_len, hw7]
        have hw7' : word.length ≤ 7 := by omega
        refine comp_range (n := 6) (by rfl) lF' lN' (by assumption) (by decide) (by decide) (by rfl) (by rfl) (fun i ys => StrsAre ys (((List.range i).filter (fallAt (cl word))).map fun (j : Nat) => nmX (place + j))) .nil (fun i ys hi hy => ?dlen) ?dturn ?ddone
        case dlen =>
          rw [hy.length, List.length_map, PySem.sizeLine_eq]
          have := List.length_filter_le (fallAt (cl word)) (List.range i)
          rw [List.length_range] at this
          omega
        case dturn =>
          clear lF' lN'
          unfold JTurn
          rintro C D7 i7 ys7 m₇ oC7 hh7 tk7 own7 E7 hi7 hJ7 ⟨t7, hx7⟩ hoC7 FF7 NN7
          have hnm : ((List.range 34).map nmX)[place + i7]? = some (nmX (place + i7)) := by rw [List.getElem?_map, List.getElem?_range (by omega)]; rfl
          obtain ⟨d, hd3⟩ : ∃ d, (cl word)[i7 + 1]? = some d := ⟨_, List.getElem?_eq_getElem (by omega)⟩
          have hLd : Lt d := hS d (List.mem_of_getElem? hd3)
          obtain ⟨c, hc⟩ : ∃ c, (cl word)[i7]? = some c := ⟨_, List.getElem?_eq_getElem (by omega)⟩
          have hLc : Lt c := hS c (List.mem_of_getElem? hc)
          refine wpAny_tests_one ?_
          simp only [List.cons_append, Int.zero_add] at NN7 hx7
          k_steps
          · rename (ixC _ < ixC _) => hst
            have hfa := (fall_ix (by assumption) (by assumption) (by assumption) (by assumption)).mp hst
            refine ⟨_, _, oC7, m₇, rfl, by assumption, by assumption, hoC7, trivial, ?_⟩
            show StrsAre _ (((List.range (i7 + 1)).filter (fallAt (cl word))).map fun (j : Nat) => nmX (place + j))
            rw [List.range_succ, List.filter_append, List.filter_cons_of_pos hfa, List.filter_nil, List.map_append]
            exact strs_snoc hJ7
          · rename (¬ ixC _ < ixC _) => hst
            have hfa : ¬ fallAt (cl word) i7 = true := fun q => hst ((fall_ix (by assumption) (by assumption) (by assumption) (by assumption)).mpr q)
            refine ⟨_, _, ys7, oC7, m₇, rfl, by assumption, by assumption, hoC7, trivial, ?_⟩
            show StrsAre _ (((List.range (i7 + 1)).filter (fallAt (cl word))).map fun (j : Nat) => nmX (place + j))
            rw [List.range_succ, List.filter_append, List.filter_cons_of_neg hfa, List.filter_nil, List.append_nil]
            exact hJ7
        case ddone =>
          clear lF' lN'
          intro g8 D8 ys8 hy8 hlt8
          unfold FinAJ
          intro h8 tk8 FF8 NN8 hlt9
          have hDue : StrsAre ys8 ((fallsL (cl word)).map fun (j : Nat) => nmX (place + j)) := hy8
          have hdl : ys8.length ≤ 6 := by rw [hDue.length, List.length_map]; exact falls_len _
          have hadd : ∀ v : Value, ys8.length + (if top = 0 then [] else [v]).length ≤ 1000 := fun v => by split <;> simp <;> omega
          have hadd2 : ∀ v : Value, (ys8 ++ (if top = 0 then [] else [v])).length ≤ 1000 := fun v => by rw [List.length_append]; exact hadd v
          have hnm31 : ((List.range 34).map nmX)[31 + top]? = some (nmX (31 + top)) := by rw [List.getElem?_map, List.getElem?_range (by omega)]; rfl
          (try dsimp only)
          (try k_fold)
          k_steps
          · unfold StopW
            rename News _ _ _ _ => fN
            rename (List.isEmpty _ = true) => hem
            k_dflt (refine ne_tell fN (by k_mem) (by k_mem) hTell (by rw [tell_empty hDue hem]; exact .cons _ _ .nil) (tell_ok hp ht) (by units_room) ?_)
            (try dsimp only)
            (try k_fold)
            have htl2 := (tell_vl hTell)
            k_steps
            unfold StopW
            rename Fr _ _ _ _ => lF'
            rename News _ _ _ _ => lN'
            refine comp_list (by rfl) lF' lN' (.inr ⟨_, List.mem_cons_self .., rfl, _, rfl⟩) (by rfl) (by rfl) (fun i ys => IntsAre ys (((fallsL (cl word)).take i).map fun (k : Nat) => (k : Int) + 1)) .nil (fun i ys hi hy => ?ilenA) ?iturnA ?idoneA
            case ilenA =>
              rw [hy.length, List.length_map, List.length_take, PySem.sizeLine_eq]
              have := falls_len (cl word)
              omega
            case iturnA =>
              have hTk := tell_take hDue hTell
              clear lF' lN'
              unfold JTurn
              rintro C D9 i9 ys9 m₉ oC9 hh9 tk9b own9 E9 hi9 hJ9 ⟨v9, hv9, hx9⟩ hoC9 FF9 NN9
              obtain ⟨k9, t9b, hk9, rfl⟩ := tell_at hTk hv9
              have hk96 : k9 < 6 := falls_mem _ k9 (List.mem_of_getElem? hk9)
              have hno9 := nm_no (j := place + k9) (by omega)
              have hat9 := nm_at (j := place + k9) (by omega)
              refine wpAny_tests_nil ?_
              simp only [if_true]
              simp only [List.cons_append] at NN9
              k_steps
              refine ⟨_, _, oC9, m₉, rfl, by assumption, by assumption, hoC9, trivial, ?_⟩
              show IntsAre _ (((fallsL (cl word)).take (i9 + 1)).map fun (k : Nat) => (k : Int) + 1)
              rw [List.take_add_one, hk9, List.map_append]
              exact snocI hJ9 (by show _ = (k9 : Int) + 1; omega)
            case idoneA =>
              have hTk := tell_take hDue hTell
              clear lF' lN'
              intro g10 D10 ys10 hy10 hlt10
              unfold FinEJ
              intro h11 tk11 FF11 NN11 hlt11
              have hy10' : IntsAre ys10 ((fallsL (cl word)).map fun (k : Nat) => (k : Int) + 1) := by
                rw [List.size_toArray, hTk.length, List.length_map, List.take_length] at hy10
                exact hy10
              (try dsimp only)
              (try k_fold)
              k_steps
              rename Fr _ _ _ _ => fF2
              rename News _ _ _ _ => fN2
              exact hret _ _ _ fF2 fun p hp => fN2 p (by simp only [List.mem_cons, hp, or_true])
          · unfold StopW
            rename News _ _ _ _ => fN
            rename (List.isEmpty _ = false) => hem
            k_dflt (refine ne_tell fN (by k_mem) (by k_mem) hTell (tell_full hDue hem) (tell_ok hp ht) (by units_room) ?_)
            (try dsimp only)
            (try k_fold)
            have htl2 := (tell_vl hTell)
            k_steps
            unfold StopW
            rename Fr _ _ _ _ => lF'
            rename News _ _ _ _ => lN'
            refine comp_list (by rfl) lF' lN' (.inr ⟨_, List.mem_cons_self .., rfl, _, rfl⟩) (by rfl) (by rfl) (fun i ys => IntsAre ys (((fallsL (cl word)).take i).map fun (k : Nat) => (k : Int) + 1)) .nil (fun i ys hi hy => ?ilenB) ?iturnB ?idoneB
            case ilenB =>
              rw [hy.length, List.length_map, List.length_take, PySem.sizeLine_eq]
              have := falls_len (cl word)
              omega
            case iturnB =>
              have hTk := tell_take hDue hTell
              clear lF' lN'
              unfold JTurn
              rintro C D9 i9 ys9 m₉ oC9 hh9 tk9b own9 E9 hi9 hJ9 ⟨v9, hv9, hx9⟩ hoC9 FF9 NN9
              obtain ⟨k9, t9b, hk9, rfl⟩ := tell_at hTk hv9
              have hk96 : k9 < 6 := falls_mem _ k9 (List.mem_of_getElem? hk9)
              have hno9 := nm_no (j := place + k9) (by omega)
              have hat9 := nm_at (j := place + k9) (by omega)
              refine wpAny_tests_nil ?_
              simp only [if_true]
              simp only [List.cons_append] at NN9
              k_steps
              refine ⟨_, _, oC9, m₉, rfl, by assumption, by assumption, hoC9, trivial, ?_⟩
              show IntsAre _ (((fallsL (cl word)).take (i9 + 1)).map fun (k : Nat) => (k : Int) + 1)
              rw [List.take_add_one, hk9, List.map_append]
              exact snocI hJ9 (by show _ = (k9 : Int) + 1; omega)
            case idoneB =>
              have hTk := tell_take hDue hTell
              clear lF' lN'
              intro g10 D10 ys10 hy10 hlt10
              unfold FinEJ
              intro h11 tk11 FF11 NN11 hlt11
              have hy10' : IntsAre ys10 ((fallsL (cl word)).map fun (k : Nat) => (k : Int) + 1) := by
                rw [List.size_toArray, hTk.length, List.length_map, List.take_length] at hy10
                exact hy10
              (try dsimp only)
              (try k_fold)
              k_steps
              rename Fr _ _ _ _ => fF2
              rename News _ _ _ _ => fN2
              exact hret _ _ _ fF2 fun p hp => fN2 p (by simp only [List.mem_cons, hp, or_true])
end Mine
end
section
open PySem PySem.W PyProof.Rows PySem.Calls PySem.Spec PyProof.V PyProof.Rows.LCg
set_option maxHeartbeats 2000000
namespace Mine
/-- the sign that a number tells -/
@[irreducible] noncomputable def ltr (x : Int) : Nat := if x.fmod 4 = 0 then 65 else if x.fmod 4 = 1 then 66 else if x.fmod 4 = 2 then 97 else 98
theorem ltr_lt (x : Int) : Lt (ltr x) := by
  unfold ltr Lt
  split
  · exact .inl rfl
  · split
    · exact .inr (.inl rfl)
    · split
      · exact .inr (.inr (.inl rfl))
      · exact .inr (.inr (.inr rfl))
theorem cl_abab : cl (Str.ofString "ABab") = [65, 66, 97, 98] := by decide +kernel
theorem abab_at (x : Int) : ∃ j : Nat, x.fmod 4 = (j : Int) ∧ (cl (Str.ofString "ABab"))[j]? = some (ltr x) := by
  rw [cl_abab]
  have h0 : 0 ≤ x.fmod 4 := fmod_lo x (by decide)
  have h1 : x.fmod 4 < 4 := fmod_hi x (by decide)
  unfold ltr
  obtain ⟨j, hj⟩ := Int.eq_ofNat_of_zero_le h0
  rw [hj] at h1 ⊢
  have h2 : j < 4 := Int.ofNat_lt.mp h1
  refine ⟨j, rfl, ?_⟩
  match j, h2 with
  | 0, _ => rfl
  | 1, _ => rfl
  | 2, _ => rfl
  | 3, _ => rfl
noncomputable def wordL (ms : List Int) : List Nat := (ms.take 7).map ltr
theorem wordL_len {ms : List Int} (h : ms.length = 9) : (wordL ms).length = 7 := by
  unfold wordL
  rw [List.length_map, List.length_take]; omega
theorem wordL_lt (ms : List Int) : ∀ c ∈ wordL ms, Lt c := by
  intro c hc
  obtain ⟨x, _, rfl⟩ := List.mem_map.mp hc
  exact ltr_lt x
theorem join_sgn : ∀ (l : List Nat), cl (Str.join (Str.ofString "") (l.map sgn)) = l
  | [] => rfl
  | [c] => rfl
  | c :: d :: r => by
    have : Str.join (Str.ofString "") ((c :: d :: r).map sgn) = sgn c ++ Str.ofString "" ++ Str.join (Str.ofString "") ((d :: r).map sgn) := rfl
    rw [this, cl_app, cl_app, join_sgn (d :: r)]
    rfl
section
variable {prog : Program} {w : World} {A : Around} {E : Value → Shared → Prop} {s : Shared} {h₀ : Heap} {L : Addr} {m : Str → Option Value} {news : List (Addr × Obj)}
theorem item_abab {value slice : PySem.Expr} {t : Tok} {x : Int} {u : Tok} {Q : Value → Shared → Prop} (h : ∀ t tk, Q (.str (sgn (ltr x)) t) { s with toks := tk })
    (hs : subscripted slice false (.str (Str.ofString "ABab") t) (.int (x.fmod 4) u) = operate [.str (Str.ofString "ABab") t, .int (x.fmod 4) u] (getItem (.str (Str.ofString "ABab") t) (.int (x.fmod 4) u)))
    (ht : ∀ r, letTemporaryGo value (.str (Str.ofString "ABab") t) r = pure ()) :
    wpAny (model prog w) A (subscriptTail value slice (.str (Str.ofString "ABab") t) (.int (x.fmod 4) u)) Q E s := by
  obtain ⟨j, hj, hc⟩ := abab_at x
  exact item_codeZ hc hj (by decide) h hs ht
theorem join_word {ln : Addr} {vs : List Value} {l : List Nat} {c : Nat} {rest : List (Addr × Obj)} {t : Tok} {Q : Value → Shared → Prop} (N : News h₀ L s.heap ((ln, listOf vs.toArray c) :: rest)) (h : StrsAre vs (l.map sgn)) (hn : l.length ≤ 100)
    (hq : ∀ x t' k, cl x = l → Q (.str x t') { s with toks := k }) : wpAny (model prog w) A (call (.builtin "str.join") [.str (Str.ofString "") t, .ref ln]) Q E s :=
  join_led N h (fun y hy => by
    obtain ⟨c, _, rfl⟩ := List.mem_map.mp hy
    show (1 : Nat) ≤ 100
    decide) (by rw [List.length_map]; exact hn) (by decide) fun t' k => hq _ t' k (join_sgn l)
theorem store_cellM {env : Env} {x : Str} {c : Addr} {oc : Obj} {uc : Option Value} {v : Value} {pre rest : List (Addr × Obj)} {Q : Unit → Shared → Prop}
    (hk : env.scope.kind = .function) (hx : env.kindOf x = some .cell) (hcl : env.cells.lookup x = some c) (F : Fr h₀ L s.heap m) (N : News h₀ L s.heap (pre ++ (c, oc) :: rest)) (hoc : oc.data = .cell uc) (hp : ∀ p ∈ pre, @Ne Nat p.1 c) (hne : ∀ p ∈ rest, @Ne Nat p.1 c)
    (h : ∀ h' o', o'.data = .cell (some v) → Fr h₀ L h' m → News h₀ L h' (pre ++ (c, o') :: rest) → Q () { s with heap := h' }) :
    wpAny (model prog w) A (storeName env x v) Q E s := by
  have hc := N (c, oc) (List.mem_append_right _ (List.mem_cons_self ..))
  refine PySem.wpAny_storeName_cell hk hx hcl ⟨oc, hc.1, hoc⟩ fun h₂ hc₂ hs₂ => ?_
  obtain ⟨o', ho', hd'⟩ := hc₂
  refine h h₂ o' hd' (F.change hs₂ hc.2.1 hc.2.2) fun p hpm => ?_
  rcases List.mem_append.mp hpm with q | q
  · have z := N p (List.mem_append_left _ q)
    exact ⟨hs₂.extBut _ _ (hp p q) z.1, z.2⟩
  · rcases List.mem_cons.mp q with rfl | q
    · exact ⟨ho', hc.2⟩
    · have z := N p (List.mem_append_right _ (List.mem_cons_of_mem _ q))
      exact ⟨hs₂.extBut _ _ (hne p q) z.1, z.2⟩
theorem store_cellF {env : Env} {x : Str} {c : Addr} {oc : Obj} {uc : Option Value} {v : Value} {g : Obj → List (Addr × Obj)} {Q : Unit → Shared → Prop}
    (hk : env.scope.kind = .function) (hx : env.kindOf x = some .cell) (hcl : env.cells.lookup x = some c) (F : Fr h₀ L s.heap m) (N : News h₀ L s.heap news) (U : UpdF c oc news g) (hoc : oc.data = .cell uc)
    (h : ∀ h' o', o'.data = .cell (some v) → Fr h₀ L h' m → News h₀ L h' (g o') → Q () { s with heap := h' }) :
    wpAny (model prog w) A (storeName env x v) Q E s := by
  obtain ⟨pre, post, rfl, hg, h1, h2⟩ := U.split
  refine store_cellM hk hx hcl F N hoc h1 h2 fun h' o' ho F' N' => h h' o' ho F' ?_
  rw [hg]
  exact N'
theorem slice_7 {value slice : PySem.Expr} {l : Addr} {vs : List Value} {c : Nat} {u : Tok} {Q : Value → Shared → Prop} (F : Fr h₀ L s.heap m) (N : News h₀ L s.heap news) (hm : (l, listOf vs.toArray c) ∈ news) (hz : vs.length ≤ 100)
    (h : ∀ D h', Fr h₀ L h' m → News h₀ L h' ((D, listOf (vs.take 7).toArray 0) :: news) → (∀ p ∈ news, p.1 < D) → Q (.ref D) { s with heap := h' })
    (hs : subscripted slice false (.ref l) (.ref s.heap.objs.size) = operate [.ref s.heap.objs.size, .ref l] (getItem (.ref l) (.ref s.heap.objs.size))) (ht : ∀ r, letTemporaryGo value (.ref l) r = pure ()) :
    wpAny (model prog w) A (subscriptTail value slice (.ref l) (.ref s.heap.objs.size)) Q E { s with heap := s.heap.push { cls := .type "slice", data := .fields #[.none, .int 7 u, .none] } } :=
  slice_to (n := 7) F N hm hz h hs ht
theorem get_lit {value slice : PySem.Expr} {D : Addr} {vs : List Value} {ns : List Int} {n : Nat} {k : Int} {u : Tok} {Q : Value → Shared → Prop} (N : News h₀ L s.heap news) (hm : (D, listOf vs.toArray n) ∈ news) (hi : IntsAre vs ns) (hk : 0 ≤ k ∧ k < 9) (hl : ns.length = 9) (h : ∀ x t, x = ns.getD k.toNat 0 → Q (.int x t) s)
    (hs : subscripted slice false (.ref D) (.int k u) = operate [.ref D, .int k u] (getItem (.ref D) (.int k u))) :
    wpAny (model prog w) A (subscriptTail value slice (.ref D) (.int k u)) Q E s :=
  ksa_sub N hm hi hk.1 (by omega) (by omega) (fun t => h _ t rfl) hs
theorem mod_nat {x b : Int} {t u : Tok} {Q : Value → Shared → Prop} (m : Nat) (e : b = (m : Int)) (hm : 0 < m) (h : ∀ (k : Nat) t, k < m → Q (.int (k : Int) t) { s with toks := s.toks + 1 }) : wpAny (model prog w) A (binaryOp .Mod (.int x t) (.int b u)) Q E s := by
  subst e
  refine mod_int' (by omega) ?_
  have h0 : 0 ≤ x.fmod (m : Int) := fmod_lo x (by omega)
  have h1 : x.fmod (m : Int) < m := fmod_hi x (by omega)
  have e : x.fmod (m : Int) = ((x.fmod (m : Int)).toNat : Int) := by omega
  rw [e]
  exact h _ _ (by omega)
theorem with_list {h : Heap} {ax : Addr} {vs : List Value} {ns : List Int} {P : Prop} (_l : h.IsList ax vs.toArray) (_i : IntsAre vs ns) (k : ∀ ax' vs' ns', ax' = ax → vs' = vs → ns' = ns → P) : P := k _ _ _ rfl rfl rfl
theorem with_news2 {h : Heap} {a b : Addr} {o o' : Obj} {P : Prop} (_n : News h₀ L h [(a, o), (b, o')]) (k : ∀ o1 o2, o1 = o → o2 = o' → P) : P := k _ _ rfl rfl
theorem with_cl {x : Str} {l : List Nat} {P : Prop} (_h : cl x = l) (k : ∀ x', x' = x → P) : P := k _ rfl
theorem fr_to {h : Heap} {m' : Str → Option Value} (F : Fr h₀ L h m) (e : m = m') : Fr h₀ L h m' := e ▸ F
theorem news_sub {h : Heap} {news' : List (Addr × Obj)} (N : News h₀ L h news) (hs : ∀ p ∈ news', p ∈ news) : News h₀ L h news' := fun p hp => N p (hs p hp)
end
end Mine
end
section
open PySem PySem.W PyProof.Rows PySem.Calls PySem.Spec PyProof.V
set_option maxHeartbeats 2000000
namespace Mine
section
variable {M : Model} {A : Around} {E : Value → Shared → Prop} {s : Shared}
theorem looks_madeW {base h : Heap} {env : Env} {outer : List Env} {L e : Addr} {cls : Value} {args : List Value} {Q : Unit → Shared → Prop}
    (hfr : A.frames = some (env :: outer)) (hf : env.frame = some L) (hkb : base.StaysIn h) (hl : h.FunFrames base (env :: outer)) (hx : Heap.MadeExcOf h s.heap e cls args)
    (hQ : ∀ h' t, Heap.HeldW base (env :: outer) e cls (.ref t) L h' → h'.TupAt t args → h.get? t = none → s.heap.UpToSlots h' → Q () { s with heap := h' }) : wpAny M A (noteFrame (.ref e) env) Q E s := by
  obtain ⟨t, he, htn, ht⟩ := hx.there
  have fresh : ∀ b, h.get? b = none → base.get? b = none := fun b hb => by
    cases hq : base.get? b with
    | none => rfl
    | some o' => have := hkb b o' hq; rw [hb] at this; cases this
  unfold noteFrame
  simp only [hf]
  refine wpAny_bind (wpAny_field he rfl (x := .none) rfl ?_)
  rw [if_neg (by decide)]
  refine wpAny_entryW (a0 := .ref t) hfr (hl.of_keeps fun b o hb _ => ⟨o, hx.keeps b o hb, rfl⟩) hf he (fun b o hb => hx.keeps b o (hkb b o hb)) (fresh e hx.new) rfl (by simp) rfl fun h' hL => ?_
  obtain ⟨k1, k2, k3, k4⟩ := hL
  exact hQ h' t ⟨k1, fresh e hx.new, k2, k3⟩ (Heap.TupAt.of_slots ⟨_, _, ht, rfl, rfl⟩ k4) htn k4
theorem cameBack_heldW {base : Heap} {env : Env} {l : List Env} {L e : Addr} {cls a0 : Value} {Q : Unit → Shared → Prop} (hf : env.frame = some L) (hh : Heap.HeldW base l e cls a0 L s.heap)
    (hQ : ∀ h', Heap.HeldW base l e cls a0 L h' → s.heap.UpToSlots h' → Q () { s with heap := h' }) :
    wpAny M A (do
      if (← field (.ref e) 1) == Value.none then unsupported "frame.own-activation:exception-without-traceback"
      setFlight (.ref e) env.frame) Q E s := by
  obtain ⟨hkb, hen, hl, ht⟩ := hh
  obtain ⟨oe, vs, T, oT, ts, he, hcls, hd, h1, hnT, hTe, hT, hdT, h3⟩ := ht
  have hsz3 : 3 < ts.size := (Array.getElem?_eq_some_iff.mp h3).1
  have other : ∀ b, b ≠ T → (s.heap.update T (Obj.mapFields (·.setIfInBounds 3 ((some L : Option Addr).elim Value.none fun f => rawInt f)))).get? b = s.heap.get? b :=
    fun b hb => Heap.get?_update_other _ _ (Ne.symm hb)
  have noRecord : ∀ b o, s.heap.get? b = some o → (∀ vs, o.data ≠ .fields vs) → b ≠ T := fun b o hb hnf q => by
    rw [q, hT] at hb; injection hb with hb; subst hb; exact hnf ts hdT
  refine wpAny_bind (wpAny_field he hd h1 ?_)
  rw [if_neg (by simp)]
  unfold setFlight
  refine wpAny_bind (wpAny_field he hd h1 ?_)
  rw [if_pos (show (Value.ref T != Value.none) = true from by simp)]
  rw [hf]
  refine wpAny_setField hT hdT hsz3 (hQ _ ⟨fun b o hbo => (other b fun q => by rw [q, hnT] at hbo; cases hbo).trans (hkb b o hbo), hen,
    hl.of_keeps fun b o hb hnf => ⟨o, (other b (noRecord b o hb hnf)).trans hb, rfl⟩, ?_⟩ fun b o hb hnf => ⟨o.slots, (other b (noRecord b o hb hnf)).trans hb⟩)
  exact ⟨oe, vs, T, _, _, (other e (Ne.symm hTe)).trans he, hcls, hd, h1, hnT, hTe, Heap.get?_update_self _ hT (Obj.isFreed_of_fields (Obj.data_mapFields hdT _)), Obj.data_mapFields hdT _, by simp [hsz3]⟩
end
section
variable {prog : Program} {w : World} {A : Around} {base : Heap} {C ax : Addr} {env : Env} {items : Array Value} {R : GenEnd} {Y : Protocol}
noncomputable def UTS (C : Addr) (h h' : Heap) : Prop := ∀ b o, b ≠ C → h.get? b = some o → (∀ vs, o.data ≠ .fields vs) → ∃ sl, h'.get? b = some { o with slots := sl }
/-- the generator from its start, if the first number is 0: it raises -/
theorem seg_graise (p : GPos) {px pl pn pg pa pf prn pra prc prs : Pos} {kn km : Nat} {msg : Str} (hh : A.handled = none) {outs : List Env} (hfr : A.frames = some outs)
    (hCx : C ≠ ax) (hbC : base.get? C = none) (hloc : env.locals = C) (hframe : env.frame = some C) (hkf : env.scope.kind = .function) (hco : env.scope.isCoroutine = false)
    (hpl : (env.scope.kind == .class || (env.scope.kind == .module && env.locals != env.globals)) = false)
    (hsw : ∀ (t : Option PySem.Expr) (ln : Nat) (q : Pos), swapsWith (.Name nI q) t ln env = pure false) (hsn : swapsWith (.Constant .none kn pn) (some (.Name nL pl)) pa.line env = pure false) (hia : interactive env = false)
    (hkI : env.kindOf nI = some .local) (hkL : env.kindOf nL = some .local) (hkG : env.kindOf nG = some .local)
    (hcm : ∀ (A' : Around) (pos : Pos) (Q : Value → Shared → Prop) (E : Value → Shared → Prop) (s : Shared), (∀ b o, base.get? b = some o → s.heap.get? b = some o) → (∀ t, Q (.int 127 t) s) → wpAny (model prog w) A' (eval (.Name nM pos) env) Q E s)
    (hve : ∀ (A' : Around) (pos : Pos) (Q : Value → Shared → Prop) (E : Value → Shared → Prop) (s : Shared), (∀ b o, base.get? b = some o → s.heap.get? b = some o) → Q (.type "ValueError") s → wpAny (model prog w) A' (eval (.Name (Str.ofString "ValueError") pos) env) Q E s)
    (hfold : ∀ x, foldedSetIterable (.Name nG pg) env x = pure x)
    {r : List Int} (hi : IntsAre items.toList (0 :: r))
    {s : Shared} {m : Str → Option Value} (hkeep : ∀ b o, base.get? b = some o → s.heap.get? b = some o) (hl : s.heap.IsList ax items) (hn : s.heap.Ns C m) (hm : m nG = some (.ref ax)) (hfo : ∀ h' : Heap, (∀ b o, b ≠ C → s.heap.get? b = some o → h'.get? b = some o) → h'.FunFrames base outs)
    (hR : ∀ e t tok h' tk, Heap.FlyingW base outs e (.type "ValueError") (.ref t) h' → h'.TupAt t [.str msg tok] → base.get? t = none → s.heap.get? t = none → s.heap.get? e = none → UTS C s.heap h' → R 0 s (.error (.ref e)) { s with heap := h', toks := tk }) :
    Seg (model prog w) A R Y 0 s (.func [.Assign [.Name nL pl] (.Constant .none kn pn) pa, .For (.Name nI px) (.Name nG pg) (gbody p [.Raise (some (.Call (.Name (Str.ofString "ValueError") prn) [.Constant (.str msg) km pra] [] prc)) none prs]) [] pf] env)
      ((model prog w).den (.func [.Assign [.Name nL pl] (.Constant .none kn pn) pa, .For (.Name nI px) (.Name nG pg) (gbody p [.Raise (some (.Call (.Name (Str.ofString "ValueError") prn) [.Constant (.str msg) km pra] [] prc)) none prs]) [] pf] env)) [] s := by
  refine seg_func (seg_execs_cons (seg_plain (wpAny_Assign_Name (wpAny_Constant_none (wpAny_storeName_local hkL (hloc ▸ hn) (fun h₁ hn₁ hs₁ => ?_) hpl)) hsn)))
  have hnC : h₁.Ns C _ := hloc ▸ hn₁
  have hs₁' : Heap.SameBut C s.heap h₁ := hloc ▸ hs₁
  have hl₁ : h₁.IsList ax items := hl.extBut hs₁'.extBut (Ne.symm hCx)
  refine seg_execs_cons (seg_For hfold (wpAny_Name (wpAny_loadName_local hkf hkG hn₁ (by rw [if_neg (by decide)]; exact hm) ?_)))
  refine wpAny_pyIter_list hl₁ fun p' => ?_
  have hsz : h₁.objs.size = s.heap.objs.size := hs₁'.1
  have hbI : base.get? h₁.objs.size = none := by
    cases hq : base.get? h₁.objs.size with
    | none => rfl
    | some o => exact absurd (Heap.lt_size (hkeep _ _ hq)) (by rw [hsz]; exact Nat.lt_irrefl _)
  have hCI : C ≠ h₁.objs.size := Nat.ne_of_lt hnC.lt
  have hxI : ax ≠ h₁.objs.size := Nat.ne_of_lt (by obtain ⟨o, ho, _⟩ := hl₁; exact Heap.lt_size ho)
  have G : GEnv prog w base (fun _ => False) C h₁.objs.size ax env := ⟨id, id, hCI, hCx, hxI, hbC, hbI, hloc, hkf, hco, hpl, hsw, hia, hkI, hkL, hcm⟩
  have S : GSt base C h₁.objs.size ax items .none 0 (h₁.push { cls := .type "list_iterator", dict := none, data := .fields #[.ref ax, .int 0 0] }) := by
    refine ⟨?_, ?_, ?_, ?_⟩
    · exact fun b o q => Heap.get?_push_of_some _ (hs₁'.extBut b o (fun z => by rw [z, hbC] at q; cases q) (hkeep b o q))
    · exact ⟨_, Heap.get?_push_size _ rfl, rfl, rfl⟩
    · exact hl₁.at fun o q => Heap.get?_push_of_some _ q
    · exact ⟨_, hnC.push _, if_pos rfl⟩
  obtain ⟨t0, hx0⟩ := drop_head (i := 0) (by simpa using hi)
  refine seg_forTurn (wpAny_pyNext_list_item S.it S.li hx0 fun h₂ hit hs₂ => ?_)
  have S₁ := S.step G hit hs₂
  obtain ⟨m₁, hn₁, hm₁⟩ := S₁.ns
  refine wpAny_pure (wpAny_assign_Name (wpAny_storeName_local G.kI (G.loc ▸ hn₁) (fun h₃ hn₃ hs₃ => ?_) G.plain))
  have hnC₃ : h₃.Ns C _ := G.loc ▸ hn₃
  have S₂ := S₁.store G (v := .none) (x := nI) hnC₃ (by rw [if_neg (by decide)]; exact hm₁) (G.loc ▸ hs₃)
  have U : ∀ b o, b ≠ C → s.heap.get? b = some o → h₃.get? b = some o := fun b o hb q => by
    have q₁ := Heap.get?_push_of_some { cls := .type "list_iterator", dict := none, data := .fields #[.ref ax, .int 0 0] } (hs₁'.extBut b o hb q)
    have q₂ := hs₂.extBut b o (fun z => by rw [z] at q; exact absurd (Heap.lt_size q) (by rw [hsz]; exact Nat.lt_irrefl _)) q₁
    exact hs₃.extBut b o (by rw [hloc]; exact hb) q₂
  refine seg_execs_cons (seg_If (wpAny_isTrue_Compare1 (ld_loc (hd := by decide) G hnC₃ G.kI (if_pos rfl) (G.cm _ _ _ _ _ S₂.keep fun t' => PyProof.Rows.eq_int (wpAny_truthy_bool ?_)))))
  rw [if_neg (by decide)]
  refine seg_execs_nil (seg_execs_cons (seg_If (wpAny_isTrue_Compare1 (ld_loc (hd := by decide) G hnC₃ G.kI (if_pos rfl) (wpAny_Constant_int (PyProof.Rows.eq_int (wpAny_truthy_bool ?_)))))))
  rw [if_pos (by decide)]
  have hm₂ : (fun z => if z = nI then some (Value.int 0 t0) else m₁ z) nL = some Value.none := by
    show (if nL = nI then _ else m₁ nL) = _
    rw [if_neg (by decide)]; exact hm₁
  refine seg_execs_cons (seg_If (wpAny_isTrue_Compare1 (ld_loc (hd := by decide) G hnC₃ G.kL hm₂ (wpAny_Constant_none (PySem.is_none (wpAny_truthy_bool ?_))))))
  rw [if_pos (by decide)]
  refine seg_execs_cons (seg_wrap (Raise_madeB PySem.F.excCall_ValueError PySem.F.excRaise_ValueError (show A.handled = none from hh) (hve _ _ _ _ _ S₂.keep ⟨rfl, ?_⟩)))
  refine PyProof.Rows.spliced_more (wpAny_Constant_str (PyProof.Rows.spliced_none ⟨by size_fits, fun h₄ e hx => ?_⟩))
  have hfrO : (pushEnvs (Code.forLoop (.Name nI px) (.ref h₁.objs.size) [] [] env).envs (pushEnvs (envsOf [(Code.func [] env, p')]) A.frames)) = some (env :: outs) := by
    rw [hfr]; rfl
  have hfr3 : h₃.FunFrames base (env :: outs) := by
    refine ⟨by rw [hkf]; decide, ?_, hfo _ U⟩
    obtain ⟨o, es, ep, ho, hd, _⟩ := hnC₃
    exact ⟨C, o, hframe, hbC, ho, fun vs q => by rw [hd] at q; cases q⟩
  refine seg_wrap (wpAny_bind (looks_madeW hfrO hframe S₂.keep hfr3 hx.of fun h₅ t hheld htup hbt hup => wpAny_theTreesLotGoes ?_))
  refine seg_leaf (.error (.ref e)) ?_
  refine seg_bind_wrap (m := (do
      if (← field (.ref e) 1) == Value.none then unsupported "frame.own-activation:exception-without-traceback"
      setFlight (.ref e) env.frame)) (K := fun _ => (.raise (.ref e) : Sem Flow)) (cameBack_heldW hframe hheld fun h₆ hheld₆ hup₆ => ?_)
  refine seg_wrap (wpAny_throw ?_)
  refine seg_wrap (wpAny_bind (wpAny_noteFrame_againW hframe hheld₆.2.2.2 (wpAny_landsW hheld₆ fun h₇ hfl hup₇ => ?_)))
  obtain ⟨k1, k2, ⟨_, _, k3⟩, k4⟩ := hfl
  have fresh : ∀ b, h₃.get? b = none → s.heap.get? b = none := fun b hb => by
    cases q : s.heap.get? b with
    | none => rfl
    | some o =>
      by_cases hbC : b = C
      · obtain ⟨oC, _, _, hoC, _⟩ := hnC₃
        rw [hbC, hoC] at hb; cases hb
      · rw [U b o hbC q] at hb; cases hb
  have hbt' : base.get? t = none := by
    cases q : base.get? t with
    | none => rfl
    | some o => have := S₂.keep t o q; rw [hbt] at this; cases this
  refine seg_end (.error (.ref e)) (hR e t _ h₇ _ ⟨k1, k2, k3, k4⟩ ((htup.of_slots hup₆).of_slots hup₇) hbt' (fresh t hbt) (fresh e hx.of.new) fun b o hb q hnf => ?_)
  exact (((Heap.UpToSlots.of_keeps hx.of.keeps).trans hup).trans (hup₆.trans hup₇)) b o (U b o hb q) hnf
end
end Mine
end
section
open PySem PySem.W PyProof.Rows PySem.Calls PySem.Spec PyProof.V
set_option maxHeartbeats 2000000
namespace Mine
section
variable {prog : Program} {w : World} {A : Around} {E : Value → Shared → Prop} {s : Shared}
theorem next_raise {a : Addr} {g : Nat} {gs : GenState} {P : Shared → Addr → Shared → Prop} {cls : String} {Q : Option Value → Shared → Prop}
    (hl : s.heap.NoLimit) (hroom : A.depth < recursionLimit) (hg : s.heap.IsGen a g) (hgs : s.gens[g]? = some gs)
    (hgo : gs.Goes (model prog w) A.in1 (fun _ s₀ r s₁ => ∃ e, r = .error (.ref e) ∧ P s₀ e s₁) (fun _ _ _ _ _ => False) 0 (.send .none) (s.setGen g .running))
    (hsub : isSubtype (.type cls) (.type "StopIteration") = pure false)
    (hP : ∀ e s₁, P (s.setGen g .running) e s₁ → (∃ ob, s₁.heap.get? e = some ob ∧ ob.cls = .type cls) ∧ s₁.heap.IsGen a g ∧ E (.ref e) (s₁.setGen g .finished)) :
    wpAny (model prog w) A (pyNext (.ref a)) Q E s := by
  unfold pyNext
  refine wpAny_bind (wpAny_attempt (wpAny_callSpecial?_slot (name := Str.ofString "__next__") hg.typeIs slot_gen_next
    (wpAny_call_entry slot_gen_next hg.typeIs entry_gen_next ?_ (args_gen_next _))))
  show wpAny _ A.in1 (Builtin.Generator.genWake (.ref a) (.send .none)) _ _ s
  unfold Builtin.Generator.genWake
  refine wpAny_bind (wpAny_holding (wpAny_genNumber hg (wpAny_bind (wpAny_genState hgs ?_))))
  cases gs with
  | running => exact hgo.elim
  | finished => exact hgo.elim
  | _ =>
    refine wpAny_bind (wpAny_roomToWake hl hroom ?_)
    show wpAny _ A.in1 (.resume g (.send .none) [] _) _ _ s
    refine wpAny_resumeQ hgs hgo (fun x s₁ hx => ?_) (fun v s₁ gs' hb hv => hv.elim)
    obtain ⟨e, rfl, hp⟩ := hx
    obtain ⟨he, hga, hE⟩ := hP e s₁ hp
    have hT : (s₁.setGen g .finished).TypeIs (.ref e) cls := he
    obtain ⟨o, nm, qn, ho, hc, hd, _⟩ := hga
    show wpAny _ A.in1 (Builtin.Generator.genLeft (.ref a) (.ref e)) _ _ _
    unfold Builtin.Generator.genLeft Builtin.Generator.madeByALambda
    refine wpAny_bind (wpAny_bind (wpAny_load (s := s₁.setGen g .finished) ho (wpAny_pure ?_)))
    rw [hd]
    unfold Builtin.Generator.genEscaped
    refine wpAny_bind (wpAny_isInstance hT hsub ?_)
    rw [if_neg (by simp)]
    refine wpAny_bind (wpAny_isInstance hT hsub ?_)
    rw [if_pos (by rfl)]
    refine wpAny_throw ?_
    refine wpAny_bind (wpAny_isInstance hT hsub ?_)
    rw [if_neg (by simp)]
    exact wpAny_throw hE
end
end Mine
end
section
open PySem PySem.W PyProof.Rows PySem.Calls PySem.Spec PyProof.V
set_option maxHeartbeats 4000000
namespace Mine
noncomputable def frs (l : List Env) : List Addr := l.filterMap (·.frame)
theorem near_exists (h : Heap) : ∀ (S : List Addr) (g : Heap), (∀ b ∈ S, ∃ o sl, g.get? b = some o ∧ h.get? b = some { o with slots := sl }) → ∃ g₂, Heap.SlotsOnly S g g₂ ∧ ∀ b ∈ S, g₂.get? b = h.get? b
  | [], g, _ => ⟨g, .refl _ _, fun _ hb => nomatch hb⟩
  | a :: S, g, hyp => by
    obtain ⟨g₁, hs, hg⟩ := near_exists h S g fun b hb => hyp b (.tail _ hb)
    obtain ⟨o, sl, ho, hh⟩ := hyp a (.head _)
    obtain ⟨sl', ho'⟩ := hs.2.2 a o ho
    have hu := Heap.SlotsOnly.update ho' fun _ => sl
    refine ⟨_, (hs.mono fun b hb => .tail _ hb).trans (hu.mono fun b hb => by rw [List.mem_singleton.mp hb]; exact .head _), fun b hb => ?_⟩
    by_cases e : b = a
    · subst e
      have hf : ({ ({ o with slots := sl' } : Obj) with slots := sl } : Obj).isFreed = false := by
        have hx := (Heap.get?_some_iff.mp hh).2
        exact hx
      rw [Heap.get?_update_self _ ho' hf, hh]
    · rcases List.mem_cons.mp hb with z | z
      · exact absurd z e
      · rw [Heap.get?_update_other _ _ (fun q => e q.symm)]; exact hg b z
section
variable {h₀ h₂ g g₂ h : Heap} {L : Addr} {m : Str → Option Value} {news : List (Addr × Obj)} {S : List Addr}
theorem so_none (x : Heap.SlotsOnly S g g₂) (hS : ∀ b ∈ S, ∃ o, g.get? b = some o) {b : Addr} (e : g.get? b = none) : g₂.get? b = none := by
  rw [x.2.1 b fun hb => by obtain ⟨o, ho⟩ := hS b hb; rw [e] at ho; cases ho]; exact e
theorem so_nil (x : Heap.SlotsOnly [] g g₂) (b : Addr) : g₂.get? b = g.get? b := x.2.1 b fun h => nomatch h
theorem Fr.so_nil (x : Heap.SlotsOnly [] h₀ h₂) (F : Fr h₂ L h m) : Fr h₀ L h m := ⟨F.ns, fun b o e => F.keep b o (by rw [Mine.so_nil x]; exact e), by rw [← x.1]; exact F.above⟩
theorem News.so_nil (x : Heap.SlotsOnly [] h₀ h₂) (N : News h₂ L h news) : News h₀ L h news := fun p hp => ⟨(N p hp).1, (N p hp).2.1, by rw [← Mine.so_nil x]; exact (N p hp).2.2⟩
theorem below_so {A : Around} {base : Heap} {outer : List Env} (B : Below A base outer g) (x : Heap.SlotsOnly (frs outer) g g₂) : Below A base outer g₂ := by
  refine ⟨B.stack, fun b o e => ?_, B.frames.of_slotsOnly x⟩
  rw [x.2.1 b fun hb => by rw [(B.frames.mem hb).1] at e; cases e]
  exact B.stays b o e
end
end Mine
end
section
open PySem PySem.W PyProof.Rows PySem.Calls PySem.Spec PyProof.V
set_option maxHeartbeats 4000000
namespace Mine
noncomputable def LeaveN (fr : List Addr) (h₀ : Heap) (L : Addr) (m : Str → Option Value) (g : Heap) (R : Result → Shared → Prop) (v : Value) (s' : Shared) : Prop :=
  ∃ g₂ L' m' news', Heap.SlotsOnly (L :: fr) g g₂ ∧ Fr g₂ L' s'.heap m' ∧ News g₂ L' s'.heap news' ∧ (∀ h₂, Heap.SlotsOnly fr h₀ h₂ → Fr h₂ L s'.heap m → News h₂ L s'.heap news' → R (.ok (.ret v)) s')
section
variable {prog : Program} {w : World} {A₀ A : Around} {s : Shared} {base h₀ : Heap} {outer : List Env} {L : Addr} {m : Str → Option Value} {env : Env} {news : List (Addr × Obj)} {K : Frag} {p : Program} {loose : List Str} {mean : ExcName → Option Value} {mg mb : Str → Option Value}
theorem groundN {R : Result → Shared → Prop} (B : Below A₀ base outer h₀) (F : Fr h₀ L s.heap m) (N : News h₀ L s.heap news) (hA : A.frames = some (env :: outer)) (hf : env.frame = some L) (hke : env.scope.kind = .function) :
    Fr h₀ L (hideAll s.heap (news.map (·.1))) m ∧ Below A base (env :: outer) (hideAll s.heap (news.map (·.1))) ∧ h₀.StaysIn (hideAll s.heap (news.map (·.1))) ∧
      ∀ v s', LeaveN (frs outer) h₀ L m (hideAll s.heap (news.map (·.1))) R v s' → R (.ok (.ret v)) s' := by
  obtain ⟨FG, BG, st, _⟩ := groundX (R := R) B F N hA hf hke
  refine ⟨FG, BG, st, fun v s' hl => ?_⟩
  generalize hideAll s.heap (news.map (·.1)) = g at FG BG st hl
  obtain ⟨g₂, L', m', news', hs, F', N', k⟩ := hl
  have hL : ∃ o, g.get? L = some o := let ⟨o, _, _, ho, _⟩ := FG.ns; ⟨o, ho⟩
  have hin : ∀ b ∈ frs outer, ∃ o, h₀.get? b = some o := fun b hb => let ⟨_, o, ho, _⟩ := B.frames.mem hb; ⟨o, ho⟩
  obtain ⟨h₂, hs₂, he⟩ := near_exists g₂ (frs outer) h₀ fun b hb => by
    obtain ⟨o, ho⟩ := hin b hb
    obtain ⟨sl, hsl⟩ := hs.2.2 b o (st b o ho)
    exact ⟨o, sl, ho, hsl⟩
  have keep : ∀ b o, h₂.get? b = some o → g₂.get? b = some o := fun b o e => by
    by_cases hb : b ∈ frs outer
    · rw [← he b hb]; exact e
    · rw [hs₂.2.1 b hb] at e
      rw [hs.2.1 b fun hm => by
        rcases List.mem_cons.mp hm with q | q
        · rw [q] at e; exact absurd (Nat.lt_of_lt_of_le (Heap.lt_size e) FG.above) (Nat.lt_irrefl _)
        · exact hb q]
      exact st b o e
  refine k h₂ hs₂ ⟨?_, fun b o e => F'.keep b o (keep b o e), by rw [hs₂.1]; exact FG.above⟩ fun q hq => ⟨(N' q hq).1, fun z => ?_, ?_⟩
  · obtain ⟨o, es, ep, ho, r⟩ := FG.ns
    obtain ⟨sl, hsl⟩ := hs.2.2 L o ho
    exact ⟨_, es, ep, F'.keep L _ hsl, r⟩
  · obtain ⟨o, ho⟩ := hL
    obtain ⟨sl, hsl⟩ := hs.2.2 L o ho
    have := (N' q hq).2.2
    rw [z, hsl] at this; cases this
  · cases e : h₂.get? q.1 with
    | none => rfl
    | some o => have := (N' q hq).2.2; rw [keep _ _ e] at this; cases this
theorem code_defN {R : Result → Shared → Prop} {name qual : Str} {params : Arguments} {body : List Stmt} {scope : Scope} {dV kV doc pm cdv ct oc : Value} {an od : Option Addr} {osl : Array (Option Value)} {f : Addr} {args : Args} {binds : List (Str × Value)}
    (B : Below A₀ base outer h₀) (F : Fr h₀ L s.heap m) (X₀ : K.In base) (N : News h₀ L s.heap news) (T : Top p loose mean mg mb base) (hA : A.frames = some (env :: outer)) (hf : env.frame = some L) (hke : env.scope.kind = .function)
    (ho : K.lookup f = some ⟨oc, od, .func (fnOf name qual params body scope dV kV doc pm an cdv ct), osl⟩) (hcd : codeIn K cdv qual = true) (hroom : A.depth < recursionLimit)
    (hbind : BindsTo s (fnOf name qual params body scope dV kV doc pm an cdv ct) args binds) (hloc : ∀ y ∈ binds, scope.names.lookup y.1 = some .local)
    (h : ∀ g L' h₁, Fr h₀ L g m → Fr g L' h₁ (fun y => binds.reverse.lookup y) → News g L' h₁ news → Below A base (env :: outer) g → K.In g → Top p loose mean mg mb g →
      wpAny (model prog w) (A.deeper (envOf qual scope L' f cdv)) (execs body (envOf qual scope L' f cdv))
        (fun fl s' => LeaveN (frs outer) h₀ L m g R (match fl with | .ret v => v | _ => .none) s')
        (fun e s' => wpAny (model prog w) (A.deeper (envOf qual scope L' f cdv)) (leaving (envOf qual scope L' f cdv) e) (fun _ s'' => R (.error e) s'') (fun e' s'' => R (.error e') s'') s')
        { s with heap := h₁, toks := s.toks + binds.length })
    (hco : scope.isCoroutine = false) (hgen : scope.isGenerator = false) (hk : scope.kind = .function)
    (hcell : ∀ x ∈ scope.names, x.2 ≠ .cell) : codeAny (model prog w) A (.call (.ref f) args) R s := by
  obtain ⟨FG, BG, st, lv⟩ := groundN (R := R) B F N hA hf hke
  have X₁ := X₀.keeps B.stays
  have T₁ := T.keeps B.stays
  refine codeAny_call_def (fd := fnX name qual params body scope [] dV kV doc pm an cdv ct) (body := body) (binds := binds) hroom ((X₁.keeps F.keep) _ _ ho) rfl (T₁.nolimit.keeps F.keep) (codeRec_of (X₁.keeps F.keep) hcd) rfl hbind hcell hloc (fun h₁ hns hk₁ => ?_) hco hgen hk
  exact wpAny_mono (h _ s.heap.objs.size h₁ FG ⟨hns, fun b o e => hk₁ b o (of_hideAll _ e), Nat.le_of_eq (hideAll_size _ _)⟩
    (fun p hp => ⟨hk₁ _ _ (N p hp).1, Nat.ne_of_lt (Heap.lt_size (N p hp).1), hideAll_none _ (List.mem_map_of_mem hp)⟩) BG (X₁.keeps st) (T₁.keeps st)) (fun fl s' hl => lv _ _ hl) fun _ _ y => y
end
end Mine
end
section
open PySem PySem.W PyProof.Rows PySem.Calls PySem.Spec PyProof.V
set_option maxHeartbeats 4000000
namespace Mine
section
variable {prog : Program} {w : World} {A A₀ : Around} {base h₀ : Heap} {L ax f : Addr} {m : Str → Option Value} {news : List (Addr × Obj)} {s : Shared} {Q E : Value → Shared → Prop} {items : Array Value} {r : List Int} {K : Frag}
  {name qual : Str} {params : Arguments} {body : List Stmt} {scope : Scope} {dV kV doc pm cdv ct oc : Value} {an od : Option Addr} {osl : Array (Option Value)} {tk127 : Tok} {mg mb : Str → Option Value} {mean : ExcName → Option Value} {p : Program} {loose : List Str}
  {nm : Str} {sc : Scope} {a0 : Addr} {cd0 : Value} {outer : List Env}
noncomputable def RaisedN (sh : Heap) (l : List Env) (e : Addr) (cls : Value) (t : Addr) (vs : List Value) (h' : Heap) : Prop :=
  ∃ B, (∀ b o, sh.get? b = some o → b ∉ frs l → B.get? b = some o) ∧ (∀ b ∈ frs l, B.get? b = none) ∧ Heap.FlyingW B l e cls (.ref t) h' ∧ B.get? t = none ∧ h'.TupAt t vs ∧ sh.get? t = none ∧ sh.get? e = none ∧ sh.UpToSlots h'
theorem funFrames_none {base B h : Heap} : ∀ {l : List Env}, h.FunFrames base l → (∀ env ∈ l, ∀ a, env.frame = some a → B.get? a = none) → h.FunFrames B l
  | [], _, _ => trivial
  | env :: _, ⟨hk, ⟨L, o, hf, _, ho, hd⟩, hr⟩, hin => ⟨hk, ⟨L, o, hf, hin env (.head _) L hf, ho, hd⟩, funFrames_none hr fun e he => hin e (.tail _ he)⟩
theorem call_graise (P : GPos) {px pl pn pg pa pf prn pra prc prs : Pos} {kn km : Nat} {msg : Str} (B₀ : Below A₀ base outer h₀) (hfr : A.frames = some (envOf nm sc L a0 cd0 :: outer)) (hks : sc.kind = .function)
    (hh : A.handled = none) (hroom : A.depth < recursionLimit) (F : Fr h₀ L s.heap m) (X₀ : K.In base) (N : News h₀ L s.heap news)
    (T : Top p loose mean mg mb base)
    (hax : s.heap.IsList ax items) (hi : IntsAre items.toList (0 :: r)) (hb : AllBare s.gens)
    (ho : K.lookup f = some ⟨oc, od, .func (fnOf name qual params body scope dV kV doc pm an cdv ct), osl⟩) (hcd : codeIn K cdv qual = true)
    (hbind : bindArgs (fnOf name qual params body scope dV kV doc pm an cdv ct) ⟨[.ref ax], []⟩ = pure [(nG, .ref ax)])
    (hbody : body = [.Assign [.Name nL pl] (.Constant .none kn pn) pa, .For (.Name nI px) (.Name nG pg) (gbody P [.Raise (some (.Call (.Name (Str.ofString "ValueError") prn) [.Constant (.str msg) km pra] [] prc)) none prs]) [] pf])
    (hk : scope.kind = .function) (hco : scope.isCoroutine = false) (hgen : scope.isGenerator = true) (hcell : ∀ x ∈ scope.names, x.2 ≠ .cell) (hloc : scope.names.lookup nG = some .local)
    (hkI : ∀ C, (envOf qual scope C f cdv).kindOf nI = some .local) (hkL : ∀ C, (envOf qual scope C f cdv).kindOf nL = some .local) (hkG : ∀ C, (envOf qual scope C f cdv).kindOf nG = some .local) (hkM : ∀ C, (envOf qual scope C f cdv).kindOf nM = some .globalImplicit)
    (hkV : ∀ C, (envOf qual scope C f cdv).kindOf (Str.ofString "ValueError") = some .globalImplicit) (hmiss : mg (Str.ofString "ValueError") = none) (hbv : mb (Str.ofString "ValueError") = some (.type "ValueError"))
    (hsw : ∀ C (t : Option PySem.Expr) (ln : Nat) (q : Pos), swapsWith (.Name nI q) t ln (envOf qual scope C f cdv) = pure false) (hsn : ∀ C, swapsWith (.Constant .none kn pn) (some (.Name nL pl)) pa.line (envOf qual scope C f cdv) = pure false) (hia : ∀ C, interactive (envOf qual scope C f cdv) = false)
    (hfold : ∀ C x, foldedSetIterable (.Name nG pg) (envOf qual scope C f cdv) x = pure x)
    (hcm : nsIn K mainGlobals nM = some (some (.int 127 tk127)))
    (h : ∀ a g h' tk gens', h'.IsGen a g → (∀ (Q' : Option Value → Shared → Prop) (E' : Value → Shared → Prop), (∀ e t tok h'' tk' gs', AllBare gs' → RaisedN s.heap (envOf nm sc L a0 cd0 :: outer) e (.type "ValueError") t [.str msg tok] h'' → E' (.ref e) { s with heap := h'', toks := tk', gens := gs' }) →
        wpAny (model prog w) A (pyNext (.ref a)) Q' E' { s with heap := h', toks := tk, gens := gens' }) → Q (.ref a) { s with heap := h', toks := tk, gens := gens' }) :
    wpAny (model prog w) A (call (.ref f) [.ref ax]) Q E s := by
  subst hbody
  have X₁ := X₀.keeps B₀.stays
  have hnl := T.nolimit.keeps B₀.stays
  refine wpAny_call (codeAny_call_generator hroom (F.keep _ _ (X₁ _ _ ho)) rfl hco hgen rfl ((codeRec_of X₁ hcd).keeps F.keep) ?_)
  rw [hbind]
  refine wpAny_pure (wpAny_newFunctionEnv hcell (fun x hx => by rw [List.mem_singleton.mp hx]; exact hloc) (fun h₁ hn₁ hs₁ => ?_) hk)
  have hsz : h₁.objs.size = s.heap.objs.size + 1 := by rw [hs₁.1, Heap.size_push]
  have keep₁ : ∀ b o, s.heap.get? b = some o → h₁.get? b = some o := fun b o q => hs₁.extBut b o (Nat.ne_of_lt (Heap.lt_size q)) (Heap.get?_push_of_some _ q)
  refine ⟨hnl.keeps fun b o q => keep₁ b o (F.keep b o q), ?_⟩
  have keep₂ : ∀ (ob : Obj) b o, s.heap.get? b = some o → (h₁.push ob).get? b = some o := fun ob b o q => Heap.get?_push_of_some _ (keep₁ b o q)
  have haxl : ax < s.heap.objs.size := by obtain ⟨o, ho', _⟩ := hax; exact Heap.lt_size ho'
  have K' := B₀.push (name := nm) (a := a0) (cd := cd0) F hks
  refine h h₁.objs.size s.gens.size _ _ _ ⟨_, _, _, Heap.get?_push_size _ rfl, rfl, rfl, rfl⟩ fun Q' E' hE => ?_
  generalize hob : ({ cls := .type "generator", dict := none, data := .fields #[.int s.gens.size 0, _, _] } : Obj) = gob
  have hgo1 : gob.cls = .type "generator" := by rw [← hob]
  have hgo2 : gob.slots = #[] := by rw [← hob]
  have hgo3 : ∃ n1 n2, gob.data = .fields #[.int s.gens.size 0, n1, n2] := by rw [← hob]; exact ⟨_, _, rfl⟩
  have hgf : gob.isFreed = false := by rw [← hob]; rfl
  clear hob
  have hin : ∀ e ∈ (envOf nm sc L a0 cd0 :: outer), ∀ b, e.frame = some b → b ∈ s.heap.objs.size :: (envOf nm sc L a0 cd0 :: outer).filterMap (·.frame) := fun e he b hb => .tail _ (List.mem_filterMap.mpr ⟨e, he, hb⟩)
  have hold : ∀ b ∈ (envOf nm sc L a0 cd0 :: outer).filterMap (·.frame), b < s.heap.objs.size := fun b hb => by
    obtain ⟨o, ho, _⟩ := (K'.frames.mem hb).2
    exact Heap.lt_size ho
  have hbase : ∀ b ∈ s.heap.objs.size :: (envOf nm sc L a0 cd0 :: outer).filterMap (·.frame), base.get? b = none := fun b hb => by
    rcases List.mem_cons.mp hb with rfl | hb
    · cases q : base.get? s.heap.objs.size with
      | none => rfl
      | some o => exact absurd (Heap.lt_size (F.keep _ _ (B₀.stays _ _ q))) (Nat.lt_irrefl _)
    · exact (K'.frames.mem hb).1
  have st : base.StaysIn (hideAll (h₁.push gob) (s.heap.objs.size :: (envOf nm sc L a0 cd0 :: outer).filterMap (·.frame))) := fun b o q => hideAll_get _ (keep₂ _ b o (F.keep b o (B₀.stays b o q))) fun hm => by
    rw [hbase b hm] at q; cases q
  have hBa : (hideAll (h₁.push gob) (s.heap.objs.size :: (envOf nm sc L a0 cd0 :: outer).filterMap (·.frame))).get? h₁.objs.size = some gob := hideAll_get _ (Heap.get?_push_size _ hgf) fun hm => by
    rcases List.mem_cons.mp hm with q | q
    · rw [hsz] at q; exact absurd q (Nat.ne_of_gt (Nat.lt_succ_self _))
    · have hlt : h₁.objs.size < s.heap.objs.size := hold _ q
      have hsz' : h₁.objs.size = s.heap.objs.size + 1 := hsz
      exact absurd hlt (by rw [hsz']; exact Nat.not_lt.mpr (Nat.le_succ _))
  have hnB : ∀ b o, s.heap.get? b = some o → b ∉ frs (envOf nm sc L a0 cd0 :: outer) → (hideAll (h₁.push gob) (s.heap.objs.size :: (envOf nm sc L a0 cd0 :: outer).filterMap (·.frame))).get? b = some o := fun b o q hb => by
    refine hideAll_get _ (keep₂ _ _ _ q) fun hm => ?_
    rcases List.mem_cons.mp hm with z | z
    · exact absurd z (Nat.ne_of_lt (Heap.lt_size q))
    · exact hb z
  have hfn : ∀ b ∈ frs (envOf nm sc L a0 cd0 :: outer), (hideAll (h₁.push gob) (s.heap.objs.size :: (envOf nm sc L a0 cd0 :: outer).filterMap (·.frame))).get? b = none := fun b hb => hideAll_none _ (.tail _ hb)
  have hC0 : (hideAll (h₁.push gob) (s.heap.objs.size :: (envOf nm sc L a0 cd0 :: outer).filterMap (·.frame))).get? s.heap.objs.size = none := hideAll_none _ (.head _)
  have hfo : ∀ h' : Heap, (∀ b o, b ≠ s.heap.objs.size → (h₁.push gob).get? b = some o → h'.get? b = some o) → h'.FunFrames (hideAll (h₁.push gob) (s.heap.objs.size :: (envOf nm sc L a0 cd0 :: outer).filterMap (·.frame))) (envOf nm sc L a0 cd0 :: outer) := fun h' hk' =>
    funFrames_none (K'.frames.of_keeps fun b o q _ => ⟨o, hk' b o (Nat.ne_of_lt (Heap.lt_size q)) (keep₂ _ b o q), rfl⟩) fun e he b hb => hideAll_none _ (hin e he b hb)
  have hsub : ∀ b o, (hideAll (h₁.push gob) (s.heap.objs.size :: (envOf nm sc L a0 cd0 :: outer).filterMap (·.frame))).get? b = some o → (h₁.push gob).get? b = some o := fun b o q => of_hideAll _ q
  generalize hideAll (h₁.push gob) (s.heap.objs.size :: (envOf nm sc L a0 cd0 :: outer).filterMap (·.frame)) = B at st hBa hnB hfn hC0 hfo hsub
  obtain ⟨n1, n2, hgo3⟩ := hgo3
  refine next_raise (g := s.gens.size) (cls := "ValueError") (gs := .fresh _) (P := fun s₀ e s₁ => ∃ t tok h' tk, s₁ = { s₀ with heap := h', toks := tk } ∧ Heap.FlyingW B (envOf nm sc L a0 cd0 :: outer) e (.type "ValueError") (.ref t) h' ∧ h'.TupAt t [.str msg tok] ∧ B.get? t = none ∧ s₀.heap.get? t = none ∧ s₀.heap.get? e = none ∧ UTS s.heap.objs.size s₀.heap h')
    (hnl.keeps fun b o q => keep₂ _ b o (F.keep b o q)) hroom ⟨_, _, _, Heap.get?_push_size _ hgf, hgo1, hgo3, hgo2⟩ (Array.getElem?_push_size ..) ⟨rfl, ?_⟩ (by rw [isSubtype_type]; kernel_rfl) ?_
  · refine seg_graise (base := B) (env := envOf qual scope s.heap.objs.size f cdv) P (show A.in1.handled = none from hh) (show A.in1.frames = _ from hfr) (Ne.symm (Nat.ne_of_lt haxl)) hC0 rfl rfl hk hco (by show (scope.kind == .class || (scope.kind == .module && _)) = false; rw [hk]; rfl) (hsw _) (hsn _) (hia _) (hkI _) (hkL _) (hkG _)
      (fun A' pos Q' E' s₂ hk₂ hq => Name_function_global hk (hkM _) (loadGlobal_global (env := envOf qual scope s.heap.objs.size f cdv) (T.g.keeps fun b o q => hk₂ b o (st b o q)) (mg_of X₀ T.g hcm) (hq _)) (by decide))
      (fun A' pos Q' E' s₂ hk₂ hq => Name_function_global hk (hkV _) (loadGlobal_builtin (env := envOf qual scope s.heap.objs.size f cdv) (T.g.keeps fun b o q => hk₂ b o (st b o q)) hmiss (T.b.keeps fun b o q => hk₂ b o (st b o q)) hbv hq) (by decide))
      (hfold _) hi (m := fun x => [(nG, Value.ref ax)].reverse.lookup x) hsub ?_ ?_ rfl hfo ?_
    · exact hax.at fun o q => keep₂ _ _ o q
    · exact hn₁.push _
    · exact fun e t tok h' tk x1 x2 x3 x5 x6 x4 => ⟨e, rfl, t, tok, h', tk, rfl, x1, x2, x3, x5, x6, x4⟩
  · rintro e s₁ ⟨t, tok, h', tk, rfl, x1, x2, x3, x5, x6, x4⟩
    have fresh : ∀ b, (h₁.push gob).get? b = none → s.heap.get? b = none := fun b hb => by
      cases q : s.heap.get? b with
      | none => rfl
      | some o => rw [keep₂ _ b o q] at hb; cases hb
    refine ⟨x1.there, ⟨gob, n1, n2, x1.1 _ _ hBa, hgo1, hgo3, hgo2⟩, ?_⟩
    refine hE e t tok h' tk _ ?_ ⟨B, hnB, hfn, x1, x3, x2, fresh t x5, fresh e x6, fun b o q hnf => x4 b o (Nat.ne_of_lt (Heap.lt_size q)) (keep₂ _ b o q) hnf⟩
    exact (GenOnlyQ.of ((GenOnly.setGen _ _ .running).trans (GenOnly.setGen _ _ .finished)) (setGen_self (gs := .running) (setGen_self (Array.getElem?_push_size ..))) rfl).bare (hb.push rfl)
end
end Mine
end
section
open PySem PySem.W PyProof.Rows PySem.Calls PySem.Spec PyProof.V
set_option maxHeartbeats 4000000
namespace Mine
section
variable {prog : Program} {w : World} {A : Around} {s : Shared} {env : Env} {x : Str} {body : List Stmt} {Q : Flow → Shared → Prop} {E : Value → Shared → Prop}
theorem For_graise {px pos : Pos} {iter : PySem.Expr}
    (h : wpAny (model prog w) A (eval iter env) (fun xv s₁ => wpAny (model prog w) A (pyIter xv) (fun it s₂ => wpAny (model prog w) A (pyNext it) (fun _ _ => False) E s₂) E s₁) E s)
    (hs : ∀ x, foldedSetIterable iter env x = pure x)
    (hE : PassesOwn (model prog w) A env E) :
    wpAny (model prog w) A (exec (.For (.Name x px) iter body [] pos) env) Q E s := by
  refine wpAny_For (wpAny_mono h (fun xv s₁ h₁ => wpAny_mono h₁ (fun it s₂ h₂ => ?_) fun _ _ e => e) fun _ _ e => e) hs
  refine codeAny_forLoop (R := fun r s' => match r with | .ok f => Q f s' | .error e => cameBackBy (model prog w) A env E e s') (fun _ s' => s' = s₂) ?_ 0 rfl
  rintro n s' rfl
  exact wpAny_passesOwn hE (wpAny_mono h₂ (fun _ _ x => x.elim) fun _ _ e => e)
end
theorem call28r (w : World) (mean : ExcName → Option Value) (mg mb : Str → Option Value) {A A₀ : Around} {base h₀ : Heap} {L ax : Addr} {m : Str → Option Value} {news : List (Addr × Obj)} {s : Shared} {Q E : Value → Shared → Prop} {vs : List Value} {r : List Int}
    {nm : Str} {sc : Scope} {a0 : Addr} {cd0 : Value} {outer : List Env}
    (B₀ : Below A₀ base outer h₀) (hfr : A.frames = some (envOf nm sc L a0 cd0 :: outer)) (hks : sc.kind = .function)
    (hh : A.handled = none) (hroom : A.depth < recursionLimit) (F : Fr h₀ L s.heap m) (X₀ : (hd.heap_1 w.params).In base) (N : News h₀ L s.heap news)
    (T : Top hd.view_1 (looseW hd.view_1 [Str.ofString "COMPILER_FLAG_NAMES"]) mean mg mb base)
    (hax : s.heap.IsList ax vs.toArray) (hi : IntsAre vs (0 :: r)) (hb : AllBare s.gens)
    (h : ∀ a g h' tk gens', h'.IsGen a g → (∀ (Q' : Option Value → Shared → Prop) (E' : Value → Shared → Prop), (∀ e t tok h'' tk' gs', AllBare gs' → RaisedN s.heap (envOf nm sc L a0 cd0 :: outer) e (.type "ValueError") t [.str (Str.ofString "invalid grouping") tok] h'' → E' (.ref e) { s with heap := h'', toks := tk', gens := gs' }) →
        wpAny (model PySem.Challenge.rw_wn0054_01.row.prog w) A (pyNext (.ref a)) Q' E' { s with heap := h', toks := tk, gens := gens' }) → Q (.ref a) { s with heap := h', toks := tk, gens := gens' }) :
    wpAny (model PySem.Challenge.rw_wn0054_01.row.prog w) A (call (.ref 28) [.ref ax]) Q E s := by
  have hmiss : mg (Str.ofString "ValueError") = none := T.free _ (by decide +kernel) (by decide +kernel) (by decide +kernel) (by decide +kernel) (by decide +kernel)
  have hbv : mb (Str.ofString "ValueError") = some (.type "ValueError") := (T.builtins _ (by decide)).trans PyProof.Rows.Boot.«ValueError»
  refine call_graise (K := hd.heap_1 w.params) (f := 28) ⟨_, _, _, _, _, _, _, _, _, _, _, _, _, _, _, _, _, _, _, _, _, _, _, _, _, _, _⟩ B₀ hfr hks hh hroom F X₀ N T hax (by simpa using hi) hb (by with_unfolding_all rfl) (by rfl) (by rfl) (by rfl) (by rfl) (by rfl) (by rfl) (by decide) (by rfl) (fun _ => by rfl) (fun _ => by rfl) (fun _ => by rfl) (fun _ => by rfl) (fun _ => by rfl) hmiss hbv (fun _ _ _ _ => by rfl) (fun _ => by rfl) (fun _ => by rfl) (fun _ _ => by rfl) (by with_unfolding_all rfl) h
end Mine
end
section
open PySem PySem.W PyProof.Rows PySem.Calls PySem.Spec PyProof.V
set_option maxHeartbeats 4000000
namespace Mine
section
variable {prog : Program} {w : World} {A₀ : Around} {E : Value → Shared → Prop} {s' : Shared} {base h₀ h : Heap} {outer : List Env} {L a e t : Addr} {m : Str → Option Value} {name : Str} {scope : Scope} {cd : Value}
  {vs : List Value} {n : Str} {b₀ : Stmt} {suite : List Stmt} {pos np : Pos} {rest : List ExceptHandler} {Q : Flow → Shared → Prop} {news : List (Addr × Obj)}
  {p : Program} {loose : List Str} {mean : ExcName → Option Value} {mg mb : Str → Option Value} {x : Str} {X T' : String}
theorem caughtN (K : Below A₀ base outer h₀) (F : Fr h₀ L h m) (N : News h₀ L h news) (R : RaisedN h (envOf name scope L a cd :: outer) e (.type X) t vs s'.heap)
    (T : Top p loose mean mg mb base) (hmiss : mg x = none) (hv : mb x = some (.type T'))
    (hexc : isSubtype (.type T') (.type "BaseException") = pure true) (hnt : isSubtype (.type ((Manifest.find? T').elim "type" fun y => y.metatype)) (.type "tuple") = pure false) (hsub : isSubtype (.type X) (.type T') = pure true)
    (k : ∀ h' g₂ oe ot ws nt tk, Heap.SlotsOnly (frs outer) h₀ g₂ → Below A₀ base outer g₂ → Fr g₂ L h' (fun y => if y = n then some (.ref e) else m y) → News g₂ L h' ((e, oe) :: (t, ot) :: news) →
      oe.cls = .type X → oe.data = .fields ws → ws[0]? = some (.ref t) → ot.cls = .type "tuple" → ot.data = .seq vs.toArray nt → (∀ q ∈ news, q.1 ≠ e) → (∀ q ∈ news, q.1 ≠ t) →
      wpAny (model prog w) ((A₀.deeper (envOf name scope L a cd)).mark (some (.ref e))) (execs (b₀ :: suite) (envOf name scope L a cd))
        (fun f s₄ => wpAny (model prog w) (A₀.deeper (envOf name scope L a cd)) (do bindName (envOf name scope L a cd) n .none; unbindBehindTheSuite (envOf name scope L a cd) n pos) (fun _ s₅ => Q f s₅) E s₄)
        (AsSuiteRaised (model prog w) ((A₀.deeper (envOf name scope L a cd)).mark (some (.ref e))) (envOf name scope L a cd) n pos (notedBy (model prog w) ((A₀.deeper (envOf name scope L a cd)).mark (some (.ref e))) (envOf name scope L a cd) (cameBackBy (model prog w) (A₀.deeper (envOf name scope L a cd)) (envOf name scope L a cd) E)))
        { s' with heap := h', toks := tk })
    (hk : scope.kind = .function) (hlo : (envOf name scope L a cd).kindOf n = some .local) (hx : (envOf name scope L a cd).kindOf x = some .globalImplicit) (hd : (x == ("__debug__" : Str)) = false) :
    wpAny (model prog w) (A₀.deeper (envOf name scope L a cd)) (noteFrame (.ref e) (envOf name scope L a cd))
      (fun _ s₂ => wpAny (model prog w) (A₀.deeper (envOf name scope L a cd)) (setFlight (.ref e) none) (fun _ s₃ =>
        wpAny (model prog w) (A₀.deeper (envOf name scope L a cd)) (handleBy (.ref e) (envOf name scope L a cd) (.ExceptHandler (some (.Name x np)) (some n) (b₀ :: suite) pos :: rest)) Q E s₃) E s₂) E s' := by
  obtain ⟨B, hkeep, hfn, hfl, hnew, htup, hth, heh, hup⟩ := R
  have K' := K.push (name := name) (a := a) (cd := cd) F hk
  have hbs : base.StaysIn B := fun b o q => hkeep b o (K'.stays b o q) fun hm => by
    rw [(K'.frames.mem hm).1] at q; cases q
  refine wpAny_looks_onW (Around.frames_deeper K.stack) rfl hfl fun h₄ hheld₄ hsm₄ => ?_
  refine wpAny_landsW hheld₄ fun h₅ hheld hsm₅' => ?_
  have hsm₅ := hsm₄.trans hsm₅'
  have hb₅ : ∀ b o, base.get? b = some o → h₅.get? b = some o := fun b o q => hheld.1 b o (hbs b o q)
  obtain ⟨ob, hob, hobc⟩ := hheld.there
  refine wpAny_handleBy_builtin_as (X := X) (T := T') (b := true) hexc hnt hsub (Name_function_global hk hx (loadGlobal_builtin (env := envOf name scope L a cd) (T.g.keeps hb₅) hmiss (T.b.keeps hb₅) hv ⟨rfl, ⟨ob, hob, hobc⟩, ?_⟩) hd)
  refine lands_againW hheld fun h₆ hfl₆ hsm₆ => ?_
  have up : h.UpToSlots h₆ := (hup.trans hsm₅).trans hsm₆
  have hin : ∀ b ∈ frs outer, ∃ o, h₀.get? b = some o ∧ ∀ vs, o.data ≠ .fields vs := fun b hb => let ⟨_, o, ho, hnf⟩ := K.frames.mem hb; ⟨o, ho, hnf⟩
  obtain ⟨g₂, hs₂, he₂⟩ := near_exists h₆ (frs outer) h₀ fun b hb => by
    obtain ⟨o, ho, hnf⟩ := hin b hb
    obtain ⟨sl, hsl⟩ := up b o (F.keep b o ho) hnf
    exact ⟨o, sl, ho, hsl⟩
  have hLo : ∀ b, b ≠ L → b ∉ frs outer → b ∉ frs (envOf name scope L a cd :: outer) := fun b h1 h2 hm => by
    rcases List.mem_cons.mp (show b ∈ L :: frs outer from hm) with q | q
    · exact h1 q
    · exact h2 q
  have keep₂ : ∀ b o, g₂.get? b = some o → h₆.get? b = some o := fun b o q => by
    by_cases hb : b ∈ frs outer
    · rw [← he₂ b hb]; exact q
    · rw [hs₂.2.1 b hb] at q
      exact hfl₆.1 b o (hkeep b o (F.keep b o q) (hLo b (fun z => by rw [z] at q; exact absurd (Nat.lt_of_lt_of_le (Heap.lt_size q) F.above) (Nat.lt_irrefl _)) hb))
  have F₆ : Fr g₂ L h₆ m := ⟨up.ns F.ns, keep₂, by rw [hs₂.1]; exact F.above⟩
  have none₂ : ∀ b, h₀.get? b = none → g₂.get? b = none := fun b q => so_none hs₂ (fun b hb => let ⟨o, ho, _⟩ := hin b hb; ⟨o, ho⟩) q
  have fresh₂ : ∀ b, h.get? b = none → g₂.get? b = none := fun b hb => none₂ b (by
    cases q : h₀.get? b with
    | none => rfl
    | some o => rw [F.keep b o q] at hb; cases hb)
  obtain ⟨oe, ws, hoe, hoec, hoed, hoe0⟩ := hfl₆.first
  obtain ⟨ot, nt, hot, hotc, hotd⟩ := (htup.of_slots hsm₅).of_slots hsm₆
  have Nl : News g₂ L h₆ news := fun q hq => by
    refine ⟨hfl₆.1 _ _ (hkeep _ _ (N q hq).1 (hLo _ (N q hq).2.1 fun hm => ?_)), (N q hq).2.1, none₂ _ (N q hq).2.2⟩
    obtain ⟨o, ho, _⟩ := hin _ hm
    rw [(N q hq).2.2] at ho; cases ho
  have N₆ := News.more F₆ (News.more F₆ Nl hot (fun es n q => by rw [hotd] at q; cases q) (fresh₂ t hth)) hoe (fun es n q => by rw [hoed] at q; cases q) (fresh₂ e heh)
  refine stN F₆ N₆ (fun h₇ F₇ N₇ => ?_) hk hlo
  exact k h₇ g₂ oe ot ws nt _ hs₂ (below_so K hs₂) F₇ N₇ hoec hoed hoe0 hotc hotd (fun q hq z => by have := (N q hq).1; rw [z, heh] at this; cases this) (fun q hq z => by have := (N q hq).1; rw [z, hth] at this; cases this)
end
end Mine
end
section
open PySem PySem.W PyProof.Rows
set_option maxHeartbeats 4000000
namespace Mine
abbrev CLN (w : World) (mean : ExcName → Option Value) (mg mb : Str → Option Value) (f : Addr) (d u : Nat) (vs : List Value) (fact : Prop) (R : Tok → Value) : Prop :=
  ∀ (news : List (Addr × Obj)) (dp un : Nat) (gd : Option (List Code)) (cn : Str) (cs : Scope) (a : Addr) (ccd : Value) (cl : List (Str × Addr)) (outer : List Env) (A₀ : Around) (base h₀ : Heap) (L : Addr) (m : Str → Option Value) (s : Shared) (Q E : Value → Shared → Prop),
    Below A₀ base outer h₀ → Fr h₀ L s.heap m → (hd.heap_1 w.params).In base → News h₀ L s.heap news →
    Top hd.view_1 (looseW hd.view_1 [Str.ofString "COMPILER_FLAG_NAMES"]) mean mg mb base → cs.kind = .function → dp + d < recursionLimit → un + u < cLine → AllBare s.gens →
    (∀ (t : Tok) (h' : Heap) (tk' : Nat) (gs : Array GenState) (h₂ : Heap), fact → AllBare gs → Heap.SlotsOnly (frs outer) h₀ h₂ → Fr h₂ L h' m → News h₂ L h' news → Q (R t) { s with heap := h', toks := tk', gens := gs }) →
      wpAny (model PySem.Challenge.rw_wn0054_01.row.prog w) (ktrTop dp un gd cn cs L a ccd cl outer) (call (.ref f) vs) Q E s
theorem clg_n {w : World} {mean : ExcName → Option Value} {mg mb : Str → Option Value} {f : Addr} {d u : Nat} {vs : List Value} {fact : Prop} {R : Tok → Value} (H : CLG w mean mg mb f d u vs fact R) : CLN w mean mg mb f d u vs fact R := by
  intro news dp un gd cn cs a ccd cl outer A₀ base h₀ L m s Q E hB hF hX hN hT hk hd hu hb hret
  exact H news dp un gd cn cs a ccd cl outer A₀ base h₀ L m s Q E hB hF (hX.keeps hB.stays) hN (hT.keeps hB.stays) hk hd hu hb fun t h' tk' gs hf hbs F N => hret t h' tk' gs h₀ hf hbs (.refl _ _) F N
end Mine
end
section
open PySem PySem.W PyProof.Rows
set_option maxHeartbeats 3000000
set_option pp.deepTerms false
set_option pp.maxSteps 3000
namespace Mine
theorem codes_nil : KStt.codes (Str.ofString "") = [] := rfl
noncomputable def AllNe (d : Nat) : List (Addr × Obj) → Prop
  | [] => True
  | p :: r => @Ne Nat p.1 d ∧ AllNe d r
theorem allNe_of {d : Addr} : ∀ {l : List (Addr × Obj)}, (∀ p ∈ l, p.1 ≠ d) → AllNe d l
  | [], _ => trivial
  | p :: _, h => ⟨h p (.head _), allNe_of fun q hq => h q (.tail _ hq)⟩
theorem got_of {g h : Heap} {L e t : Addr} {oe ot : Obj} {nn : List (Addr × Obj)} {ws : Array Value} {vs : List Value} {nt : Nat} {X : Value} (_ : News g L h ((e, oe) :: (t, ot) :: nn)) (q1 : oe.cls = X) (q2 : oe.data = .fields ws) (q3 : ws[0]? = some (.ref t)) (q4 : ot.cls = .type "tuple") (q5 : ot.data = .seq vs.toArray nt) :
    PyProof.Rows.Got ((e, oe) :: (t, ot) :: nn) e t X vs := ⟨oe, ot, ws, nt, .head _, .tail _ (.head _), q1, q2, q3, q4, q5⟩
theorem c64e (w : World) (mean : ExcName → Option Value) (mg mb : Str → Option Value) (sign : Str) (t1 t2 : Tok) :
  CLN w mean mg mb 64 6 200 [.str (Str.ofString "") t1, .str sign t2] True (fun t => .str (Str.ofString "") t) := by
  dsimp only [CLN]; w_top off; k_with_none; k_fill
  k_with "exec For Name Call cons nil" => (k_here; (with_unfolding_all refine' For_graise (hs := by intro _; rfl) (hE := by passes_own) ?_; k_whole))
  intro news dp un gd cn cs a0 ccd cl outer A₀ base h₀ L m s Q E hB hF0 hX hN hT hk hd hu hbare hret
  replace hret := fun t h' tk' gs h₂ => hret t h' tk' gs h₂ trivial
  refine wpAny_call ?_
  k_dflt (refine' code_defN (binds := [(Str.ofString "text", .str (Str.ofString "") t1), (Str.ofString "sign", .str sign t2)]) ?k1 ?k2 ?k3 ?k4 ?k5 ?kA ?kF ?kK ?k6 ?k7 ?k8 ?k9 ?kB ?_ ?c2 ?c3 ?c4 ?c5; (case kA => exact rfl); (case kF => exact rfl); (case kK => assumption); (case k1 => k_asm); (case k2 => k_asm); (case k3 => k_asm); (case k4 => k_asm); (case k5 => k_asm); (case k6 => k_is); (case k7 => k_is); (case k8 => ktr_room); (case k9 => exact BindsTo.of_eq rfl); (case c5 => decide); (case kB => exact locs rfl); (case c2 => exact rfl); (case c3 => exact rfl); (case c4 => exact rfl); k_whole; intro g' L' h' FG' F' N' B' X' T'; (try dsimp only [List.reverse_cons, List.reverse_nil, List.nil_append, List.cons_append] at F'); (try dsimp only); (try k_lift B'); (try k_fold))
  k_with "pyIter str" => k_dflt ((rename Fr _ _ _ _ => lF'); (rename News _ _ _ _ => lN'); (refine' KStt.kst_text (σ := Int × Tok) (fun _ => _) (fun c => [(Str.ofString "size", .int c.1 c.2)]) (fun _ => True) [] (fun _ _ => True) (0, _) (by rfl) lF' lN' ?kf ?kk ?kp ?_ ?_); (case kf => exact trivial); (case kk => kst_all); (case kp => exact trivial); (clear lF' lN'); (all_goals (first | (rintro ⟨size, tks⟩ pre post n t u h tk own hEq hOff hF hi FF NN; exfalso; rw [codes_nil] at hEq; cases pre <;> cases hEq; done) | (rintro ⟨size, tks⟩ u h tk hF hi FF NN))); (all_goals (have kMark := kstMark; (dsimp only [kstB] at *))))
  k_steps
  rename Fr _ _ _ _ => lF
  rename News _ _ _ _ => lN
  k_dflt (refine call28r w mean mg mb B' (by exact rfl) (by rfl) (by exact rfl) (by ktr_room) lF hX lN hT (by is_list) (by l_intsC) hbare ?_)
  intro a g h' tk gens' hG hNext
  (try dsimp only)
  refine wpAny_pyIter_gen hG (hNext _ _ ?_)
  intro e t tok h9 tk9 gs9 hbs9 R9
  clear hNext hG
  (try dsimp only)
  have hmiss : mg (Str.ofString "ValueError") = none := hT.free _ (by decide +kernel) (by decide +kernel) (by decide +kernel) (by decide +kernel) (by decide +kernel)
  have hbv : mb (Str.ofString "ValueError") = some (.type "ValueError") := (hT.builtins _ (by decide)).trans PyProof.Rows.Boot.«ValueError»
  k_dflt (refine caughtN (hk := by rfl) (hlo := by rfl) (hx := by rfl) (hd := by decide) B' lF lN R9 hT hmiss hbv PySem.F.isExc_ValueError PySem.F.notTuple_ValueError (by rw [isSubtype_type]; kernel_rfl) ?_)
  clear R9 lF lN
  intro h8 g8 oe ot ws nt tk8 hs8 B8 F8 N8 q1 q2 q3 q4 q5 l8 l9
  replace l8 := allNe_of l8
  replace l9 := allNe_of l9
  replace l8 := l8.2.2.2.1
  replace l9 := l9.2.2.2.1
  have X8 := hX.keeps B8.stays
  have T8 := hT.keeps B8.stays
  have G8 := got_of N8 q1 q2 q3 q4 q5
  (try dsimp only)
  (try k_fold)
  k_with "pyIter ref" => k_dflt ((rename Fr _ _ _ _ => lF'); (rename News _ _ _ _ => lN'); (refine kst_listL (σ := Unit) (vs := []) (ns := []) (nn := 0) (fun _ => (_, listOf [].toArray 0) :: news) (fun c => []) (fun _ => True) [] (fun pre c => True) () (by rfl) (fun _ => by k_mem) .nil lF' (kst_newsOf lN' (by kst_inAny)) trivial (by kst_all) trivial ?_ ?_); (clear lF' lN'); (all_goals (first | (rintro ⟨⟩ pre post n t u h tk own hEq hMem hOff hFa hj FF NN; exfalso; cases pre <;> cases hEq; done) | (rintro ⟨⟩ u h tk hFa hj FF NN))); (all_goals (have kMark := kstMark; (dsimp only [kstB] at *))))
  k_steps
  k_dflt (exact ⟨g8, _, _, news, hs8, by assumption, fun p hp => (by assumption : News g8 _ _ ((_, _) :: news)) p (.tail _ hp), fun h₂ hh F N => hret _ _ _ _ _ hbs9 hh F N⟩)
end Mine
end
section
open PySem PySem.W PyProof.Rows
set_option maxHeartbeats 1000000
namespace Mine
theorem turnS_nil (sign : Str) : turnS (Str.ofString "") sign = Str.ofString "" := by
  unfold turnS
  rw [codes_nil, szp_nil, trn_nil]
  rfl
theorem str_nil {x : Str} (h : x.length = 0) : x = Str.ofString "" := by
  cases x with
  | mk c =>
    have : c = #[] := Array.eq_empty_of_size_eq_zero h
    subst this
    rfl
theorem c64 (w : World) (mean : ExcName → Option Value) (mg mb : Str → Option Value) (text sign : Str) (t1 t2 : Tok) (hl : text.length ≤ 7) :
    CLN w mean mg mb 64 6 200 [.str text t1, .str sign t2] True (fun t => .str (turnS text sign) t) := by
  by_cases h : text.length = 0
  · rw [str_nil h, turnS_nil]
    exact c64e w mean mg mb sign t1 t2
  · exact clg_n (c64n w mean mg mb text sign t1 t2 (Nat.pos_of_ne_zero h) hl)
end Mine
end
section
open PySem PySem.W PyProof.Rows PySem.Calls PySem.Spec PyProof.V
set_option maxHeartbeats 2000000
namespace Mine
section
variable {prog : Program} {w : World} {A : Around} {s : Shared} {g : Heap} {env : Env} {x : Str} {body : List Stmt} {S : List Addr}
noncomputable def SoEnd (g : Heap) (S : List Addr) (L : Addr) (J : (Str → Option Value) → Prop) (news : List (Addr × Obj)) (s : Shared) (f : Flow) (s₃ : Shared) : Prop :=
  f = .next ∧ ∃ h' tk' gs' g₂ m₂, s₃ = { s with heap := h', toks := tk', gens := gs' } ∧ Heap.SlotsOnly S g g₂ ∧ AllBare gs' ∧ Fr g₂ L h' m₂ ∧ News g₂ L h' news ∧ J m₂
theorem loop_so {R : Result → Shared → Prop} {px : Pos} {I : Addr} {fp wr : List Addr} {n : Nat} {P : Nat → Value → Prop} {St : Nat → Heap → Prop} {m : Str → Option Value} {news : List (Addr × Obj)}
    (W : Walks prog w A I fp wr n P St) (hx : env.kindOf x = some .local) (hpl : (env.scope.kind == .class || (env.scope.kind == .module && env.locals != env.globals)) = false)
    (hL : env.locals ∉ fp) (hfp : ∀ b ∈ fp, g.get? b = none) (hS : ∀ b ∈ S, ∃ o, g.get? b = some o) (hnews : ∀ p ∈ news, p.1 ∉ fp)
    (st : St 0 s.heap) (F : Fr g env.locals s.heap m) (N : News g env.locals s.heap news) (hb : AllBare s.gens)
    (J : Nat → (Str → Option Value) → Prop) (hJ : J 0 m)
    (turn : ∀ i v m₁ g₁ h tk gs own, i < n → P i v → J i m₁ → Heap.SlotsOnly S g g₁ → AllBare gs → Fr g₁ env.locals h (fun y => if y = x then some v else m₁ y) → News g₁ env.locals h (news ++ own) →
      wpAny (model prog w) A (execs body env) (SoEnd g S env.locals (J (i + 1)) (news ++ own) s) (notedBy (model prog w) A env fun e s' => R (.error e) s') { s with heap := h, toks := tk, gens := gs })
    (done : ∀ m₁ g₁ h tk gs, J n m₁ → Heap.SlotsOnly S g g₁ → AllBare gs → Fr g₁ env.locals h m₁ → News g₁ env.locals h news → R (.ok .next) { s with heap := h, toks := tk, gens := gs }) :
    codeAny (model prog w) A (.forLoop (.Name x px) (.ref I) body [] env) R s := by
  refine codeAny_forLoop (fun k s' => ∃ h tk gs m' g₁ i, s' = { s with heap := h, toks := tk, gens := gs } ∧ St i h ∧ i ≤ n ∧ k = n + 1 - i ∧ Heap.SlotsOnly S g g₁ ∧ AllBare gs ∧ Fr g₁ env.locals h m' ∧ News g₁ env.locals h news ∧ J i m') ?_ (n + 1)
    ⟨s.heap, s.toks, s.gens, m, g, 0, rfl, st, Nat.zero_le _, rfl, .refl _ _, hb, F, N, hJ⟩
  rintro k s' ⟨h, tk, gs, m', g₁, i, rfl, st', hi, rfl, hs, hb', F', N', hJ'⟩
  have hfp₁ : ∀ b ∈ fp, g₁.get? b = none := fun b hbm => so_none hs hS (hfp b hbm)
  have next : ∀ h₁ : Heap, (∀ b o, b ∉ wr → h.get? b = some o → h₁.get? b = some o) → Fr g₁ env.locals h₁ m' ∧ News g₁ env.locals h₁ news := fun h₁ hk₁ =>
    ⟨⟨F'.ns.at' fun o q => hk₁ _ o (fun z => hL (W.sub _ z)) q, fun b o q => hk₁ b o (fun z => by rw [hfp₁ b (W.sub _ z)] at q; cases q) (F'.keep b o q), F'.above⟩,
     fun p hp => ⟨hk₁ _ _ (fun z => hnews p hp (W.sub _ z)) (N' p hp).1, (N' p hp).2⟩⟩
  by_cases hlt : i < n
  · refine W.item i _ _ _ hlt st' fun v h₁ tk₁ hP st₁ hk₁ => ?_
    obtain ⟨F₁, N₁⟩ := next h₁ hk₁
    refine wpAny_assign_Name (wpAny_storeName_local hx F₁.ns (fun h₂ hn₂ hs₂ => ?_) hpl)
    have F₂ := F₁.set hn₂ hs₂
    have N₂ := N₁.set hs₂
    have Nown : News g₁ env.locals h₂ (ownOf g₁ fp h₂) := news_ownOf hL
    refine wpAny_mono (turn i v m' g₁ h₂ _ gs (ownOf g₁ fp h₂) hlt hP hJ' hs hb' F₂ (fun p hp => (List.mem_append.mp hp).elim (N₂ p) (Nown p))) (fun f s₃ h₃ => ?_) fun _ _ q => q
    obtain ⟨rfl, h', tk', gs', g₂, m₂, rfl, hs', hb₂, F₃, N₃, hJ₃⟩ := h₃
    refine ⟨n + 1 - (i + 1), by omega, h', tk', gs', m₂, g₂, i + 1, rfl, ?_, hlt, rfl, hs', hb₂, F₃, fun p hp => N₃ p (List.mem_append_left _ hp), hJ₃⟩
    refine W.frame _ _ _ st₁ fun b hbm o q => ?_
    have q₂ := hs₂.extBut b o (fun z => hL (z ▸ hbm)) q
    exact (N₃ _ (List.mem_append_right _ (mem_ownOf hbm (hfp₁ b hbm) q₂))).1
  · have hin : i = n := Nat.le_antisymm hi (Nat.le_of_not_lt hlt)
    subst hin
    refine W.done _ _ _ st' fun h₁ tk₁ hk₁ => wpAny_execs_nil ?_
    obtain ⟨F₁, N₁⟩ := next h₁ hk₁
    exact done m' g₁ h₁ tk₁ gs hJ' hs hb' F₁ N₁
noncomputable def LoopSo (prog : Program) (w : World) (A : Around) (env : Env) (x : Str) (body : List Stmt) (Q : Flow → Shared → Prop) (E : Value → Shared → Prop) (it : Value) (s : Shared) : Prop :=
  ∃ (I : Addr) (fp wr : List Addr) (n : Nat) (P : Nat → Value → Prop) (St : Nat → Heap → Prop) (m : Str → Option Value) (news : List (Addr × Obj)) (g : Heap) (S : List Addr) (J : Nat → (Str → Option Value) → Prop),
    it = .ref I ∧ Walks prog w A I fp wr n P St ∧ env.locals ∉ fp ∧ (∀ b ∈ fp, g.get? b = none) ∧ (∀ b ∈ S, ∃ o, g.get? b = some o) ∧ (∀ p ∈ news, p.1 ∉ fp) ∧ St 0 s.heap ∧ Fr g env.locals s.heap m ∧ News g env.locals s.heap news ∧ AllBare s.gens ∧ J 0 m ∧
    (∀ i v m₁ g₁ h tk gs own, i < n → P i v → J i m₁ → Heap.SlotsOnly S g g₁ → AllBare gs → Fr g₁ env.locals h (fun y => if y = x then some v else m₁ y) → News g₁ env.locals h (news ++ own) →
      wpAny (model prog w) A (execs body env) (SoEnd g S env.locals (J (i + 1)) (news ++ own) s) E { s with heap := h, toks := tk, gens := gs }) ∧
    (∀ m₁ g₁ h tk gs, J n m₁ → Heap.SlotsOnly S g g₁ → AllBare gs → Fr g₁ env.locals h m₁ → News g₁ env.locals h news → Q .next { s with heap := h, toks := tk, gens := gs })
theorem For_so {Q : Flow → Shared → Prop} {E : Value → Shared → Prop} {px pos : Pos} {iter : PySem.Expr} (hx : env.kindOf x = some .local) (hp : (env.scope.kind == .class || (env.scope.kind == .module && env.locals != env.globals)) = false)
    (h : wpAny (model prog w) A (eval iter env) (fun xv s₁ => wpAny (model prog w) A (pyIter xv) (fun it s₂ => LoopSo prog w A env x body Q E it s₂) E s₁) E s)
    (hs : ∀ x, foldedSetIterable iter env x = pure x)
    (hE : PassesOwn (model prog w) A env E) :
    wpAny (model prog w) A (exec (.For (.Name x px) iter body [] pos) env) Q E s := by
  refine wpAny_For (wpAny_mono h (fun xv s₁ h₁ => wpAny_mono h₁ (fun it s₂ h₂ => ?_) fun _ _ e => e) fun _ _ e => e) hs
  obtain ⟨I, fp, wr, n, P, St, m, news, g, S, J, rfl, W, hL, hfp, hS, hnews, st, F, N, hb, hJ, turn, done⟩ := h₂
  refine loop_so (R := fun r s' => match r with | .ok f => Q f s' | .error e => cameBackBy (model prog w) A env E e s') W hx hp hL hfp hS hnews st F N hb J hJ ?_ done
  intro i v m₁ g₁ h tk gs own h1 h2 h3 h4 h5 h6 h7
  exact wpAny_passesOwn hE (turn i v m₁ g₁ h tk gs own h1 h2 h3 h4 h5 h6 h7)
end
end Mine
end
section
open PySem PySem.W PyProof.Rows PySem.Calls PySem.Spec PyProof.V
set_option maxHeartbeats 2000000
namespace Mine
section
variable {prog : Program} {w : World} {A : Around} {E : Value → Shared → Prop} {s : Shared} {g : Heap} {env : Env} {x : Str} {body : List Stmt} {S : List Addr} {Q : Flow → Shared → Prop}
/-- a loop over a text with one letter nD of type str -/
theorem str_so {xt : Str} {tx : Tok} {m₀ : Str → Option Value} {news : List (Addr × Obj)} (nD : Str) (d₀ : Str) (t₀ : Tok) (P : List Int → Str → Prop)
    (hh : A.handled = none) (hS : ∀ b ∈ S, ∃ o, g.get? b = some o) (F : Fr g env.locals s.heap m₀) (N : News g env.locals s.heap news) (hb : AllBare s.gens) (hm : m₀ nD = some (.str d₀ t₀)) (hP : P [] d₀)
    (turn : ∀ pre (c : Nat) post t d td g₁ h tk gs own, KStt.codes xt = pre ++ (c : Int) :: post → P pre d → Heap.SlotsOnly S g g₁ → AllBare gs → Fr g₁ env.locals h (fun y => if y = x then some (.str ⟨#[c]⟩ t) else if y = nD then some (.str d td) else m₀ y) → News g₁ env.locals h (news ++ own) →
      wpAny (model prog w) A (execs body env) (SoEnd g S env.locals (fun m₂ => ∃ d' td', P (pre ++ [(c : Int)]) d' ∧ ∀ y, y ≠ x → m₂ y = if y = nD then some (.str d' td') else m₀ y) (news ++ own) s) E { s with heap := h, toks := tk, gens := gs })
    (done : ∀ d td (u : Option Value) g₁ h tk gs, P (KStt.codes xt) d → Heap.SlotsOnly S g g₁ → AllBare gs → Fr g₁ env.locals h (fun y => if y = x then u else if y = nD then some (.str d td) else m₀ y) → News g₁ env.locals h news → Q .next { s with heap := h, toks := tk, gens := gs }) :
    wpAny (model prog w) A (pyIter (.str xt tx)) (fun it s₂ => LoopSo prog w A env x body Q E it s₂) E s := by
  refine wpAny_pyIter_str fun o St hW hst => ?_
  have W := hW A hh
  refine ⟨_, _, _, _, _, St, m₀, news, g, S, fun i m' => ∃ d' td', P ((KStt.codes xt).take i) d' ∧ ∀ y, y ≠ x → m' y = if y = nD then some (.str d' td') else m₀ y, rfl, W, ?_, ?_, hS, ?_, hst, F.push _, fun p hp => ⟨Heap.get?_push_of_some _ (N p hp).1, (N p hp).2⟩, hb, ⟨d₀, t₀, by simpa using hP, fun y _ => ?_⟩, ?_, ?_⟩
  · intro hm
    exact absurd F.ns.lt ((List.mem_singleton.mp hm) ▸ Nat.lt_irrefl _)
  · intro b' hb
    rw [List.mem_singleton.mp hb]
    exact next_is_new F
  · intro p hp hI
    exact absurd (Heap.lt_size (N p hp).1) ((List.mem_singleton.mp hI) ▸ Nat.lt_irrefl _)
  · by_cases e : y = nD
    · rw [if_pos e, e, hm]
    · rw [if_neg e]
  · rintro i v m₁ g₁ h tk gs own hi ⟨n, u, hn, rfl⟩ ⟨d, td, hp, hy⟩ hs hbs F₁ N₁
    have hn' := KStt.code_at hn
    have hs' : (KStt.codes xt).take (i + 1) = (KStt.codes xt).take i ++ [(n : Int)] := by simp [List.take_add_one, hn']
    have e : KStt.codes xt = (KStt.codes xt).take i ++ (n : Int) :: (KStt.codes xt).drop (i + 1) := by
      have ht := List.take_append_drop (i + 1) (KStt.codes xt)
      rw [hs', List.append_assoc] at ht
      exact ht.symm
    have em : (fun y => if y = x then some (Value.str ⟨#[n]⟩ u) else m₁ y) = (fun y => if y = x then some (Value.str ⟨#[n]⟩ u) else if y = nD then some (.str d td) else m₀ y) := by
      funext y
      by_cases q : y = x
      · rw [if_pos q, if_pos q]
      · rw [if_neg q, if_neg q, hy y q]
    rw [em] at F₁
    dsimp only
    rw [hs']
    exact turn _ n _ u d td g₁ h tk gs own e hp hs hbs F₁ N₁
  · rintro m₁ g₁ h tk gs ⟨d, td, hp, hy⟩ hs hbs F₁ N₁
    have hl : xt.cps.size = (KStt.codes xt).length := (KStt.codes_length xt).symm
    rw [hl, List.take_length] at hp
    have em : m₁ = (fun y => if y = x then m₁ x else if y = nD then some (.str d td) else m₀ y) := by
      funext y
      by_cases q : y = x
      · rw [if_pos q, q]
      · rw [if_neg q, hy y q]
    rw [em] at F₁
    exact done d td _ g₁ h tk gs hp hs hbs F₁ N₁
end
end Mine
end
section
open PySem PySem.W PyProof.Rows
set_option maxHeartbeats 3000000
set_option pp.deepTerms false
set_option pp.maxSteps 3000
namespace Mine
theorem sz_add {a b n : Nat} (h : a + b ≤ n) (hn : n ≤ 1000) : a + b ≤ PySem.sizeLine := by rw [PySem.sizeLine_eq]; omega
theorem len_app (a b : Str) : (a ++ b).length = a.length + b.length := PySem.Str.length_append a b
theorem len_one (n : Nat) : (⟨#[n]⟩ : Str).length = 1 := rfl
@[irreducible] noncomputable def thr (pre : List Int) : Str := pre.foldl (fun d n => turnS d ⟨#[n.toNat]⟩ ++ ⟨#[n.toNat]⟩) (Str.ofString "")
theorem thr_nil : thr [] = Str.ofString "" := by unfold thr; rfl
theorem thr_snoc (pre : List Int) (n : Int) : thr (pre ++ [n]) = turnS (thr pre) ⟨#[n.toNat]⟩ ++ ⟨#[n.toNat]⟩ := by unfold thr; simp
theorem c71 (w : World) (mean : ExcName → Option Value) (mg mb : Str → Option Value) (word : Str) (t1 : Tok) (hw : ∀ pre post, KStt.codes word = pre ++ post → (thr pre).length ≤ 7) :
  CLN w mean mg mb 71 8 300 [.str word t1] True (fun t => .str (thr (KStt.codes word)) t) := by
  dsimp only [CLN]; w_top off; k_with_none; k_fill
  k_with "exec For Name Name cons nil" => (k_here; (with_unfolding_all refine' For_so (hs := by intro _; rfl) (hE := by passes_own) ?k1 ?k2 ?_; (case k1 => exact rfl); (case k2 => exact rfl); k_whole))
  k_with "binaryOp Add str str" => (k_here; (refine add_str (hsz := ?hsz) ?_); (case hsz => (refine sz_add (n := 64) ?_ (by decide); (simp only [len_app, len_one] at *); omega)); intro _ _)
  intro news dp un gd cn cs a0 ccd cl outer A₀ base h₀ L m s Q E hB hF0 hX hN hT hk hd hu hbare hret
  replace hret := fun t h' tk' gs h₂ => hret t h' tk' gs h₂ trivial
  refine wpAny_call ?_
  k_dflt (refine' code_defN (binds := [(Str.ofString "word", .str word t1)]) ?k1 ?k2 ?k3 ?k4 ?k5 ?kA ?kF ?kK ?k6 ?k7 ?k8 ?k9 ?kB ?_ ?c2 ?c3 ?c4 ?c5; (case kA => exact rfl); (case kF => exact rfl); (case kK => assumption); (case k1 => k_asm); (case k2 => k_asm); (case k3 => k_asm); (case k4 => k_asm); (case k5 => k_asm); (case k6 => k_is); (case k7 => k_is); (case k8 => ktr_room); (case k9 => exact BindsTo.of_eq rfl); (case c5 => decide); (case kB => exact locs rfl); (case c2 => exact rfl); (case c3 => exact rfl); (case c4 => exact rfl); k_whole; intro g' L' h' FG' F' N' B' X' T'; (try dsimp only [List.reverse_cons, List.reverse_nil, List.nil_append, List.cons_append] at F'); (try dsimp only); (try k_lift B'); (try k_fold))
  k_with "pyIter str" => k_dflt ((rename Fr _ _ _ _ => lF'); (rename News _ _ _ _ => lN'); (refine' str_so (S := frs (envX cn cs L a0 ccd cl :: outer)) (Str.ofString "done") (Str.ofString "") _ (fun pre d => d = thr pre) (by rfl) ?kS lF' lN' ?kb ?km ?kp ?_ ?_); (case kS => exact fun b hb => (B'.frames.mem hb).2.imp fun o ho => ho.1); (case kb => exact hbare); (case km => with_unfolding_all rfl); (case kp => exact thr_nil.symm); (clear lF' lN'); (all_goals (first | (intro pre c post t2 d td g1 h2 tk2 gs2 own hEq hd2 hs1 hbs FF NN) | (intro d td u2 g1 h2 tk2 gs2 hd2 hs1 hbs FF NN))); (all_goals (have B1 := below_so B' hs1; have X1 := hX.keeps B1.stays; have T1 := hT.keeps B1.stays; (try dsimp only); (try k_fold))))
  k_steps
  · k_dflt (refine c64 w mean mg mb _ _ _ _ ?hl _ _ _ _ _ _ _ _ _ _ _ _ _ _ _ _ _ _ B1 (by k_asm) hX (by k_asm) hT (by first | exact rfl | assumption) (by ktr_room) (by ktr_units) (by exact hbs) ?_)
    case hl => rw [hd2]; exact hw _ _ hEq
    intro t9 h9 tk9 gs9 h29 _ hbs9 hs9 F9 N9
    have B9 := below_so B1 hs9
    have e9 : thr (pre ++ [(c : Int)]) = turnS d ⟨#[c]⟩ ++ ⟨#[c]⟩ := by rw [thr_snoc, hd2]; rfl
    have l9 : (turnS d ⟨#[c]⟩ ++ ⟨#[c]⟩ : Str).length ≤ 7 := by rw [← e9]; exact hw _ post (by rw [hEq, List.append_assoc]; rfl)
    have X9 := hX.keeps B9.stays
    have T9 := hT.keeps B9.stays
    clear FF NN X1 T1
    (try dsimp only)
    (try k_fold)
    k_steps
    k_dflt (exact ⟨rfl, _, _, _, h29, _, rfl, hs1.trans hs9, hbs9, by assumption, by assumption, _, _, e9.symm, fun y hy => by
      by_cases q : y = Str.ofString "done"
      · simp only [if_pos q]; rfl
      · simp only [if_neg q, if_neg hy]⟩)
  · rw [hd2]
    k_dflt (exact ⟨g1, _, _, news, hs1, by assumption, by assumption, fun h₂ hh F N => hret _ _ _ _ _ hbs hh F N⟩)
end Mine
end
section
open PySem PySem.W PyProof.Rows PySem.Calls PySem.Spec PyProof.V
set_option maxHeartbeats 2000000
namespace Mine
section
variable {prog : Program} {w : World} {A : Around} {E : Value → Shared → Prop} {s : Shared} {g : Heap} {env : Env} {x : Str} {body : List Stmt} {S : List Addr} {Q : Flow → Shared → Prop}
/-- a loop over range(0, b) with two letters of type str -/
theorem range_so {r : Addr} {b₀ : Int} {t₀ u₀ v₀ : Tok} {n : Nat} {m₀ : Str → Option Value} {news : List (Addr × Obj)} (nD nW : Str) (dd ww : Str) (td₀ tw₀ : Tok) (P : Nat → Str → Str → Prop)
    (hh : A.handled = none) (hr : IsRange s.heap r 0 b₀ 1 t₀ u₀ v₀) (hsmall : Builtin.Range.small 0 b₀ 1 = true) (hn : Builtin.Range.rangeSize 0 b₀ 1 = (n : Int))
    (hS : ∀ b ∈ S, ∃ o, g.get? b = some o) (F : Fr g env.locals s.heap m₀) (N : News g env.locals s.heap news) (hb : AllBare s.gens) (hm : m₀ nD = some (.str dd td₀)) (hm' : m₀ nW = some (.str ww tw₀)) (hP : P 0 dd ww)
    (turn : ∀ (i : Nat) t d td d' td' g₁ h tk gs own, i < n → P i d d' → Heap.SlotsOnly S g g₁ → AllBare gs → Fr g₁ env.locals h (fun y => if y = x then some (.int i t) else if y = nD then some (.str d td) else if y = nW then some (.str d' td') else m₀ y) → News g₁ env.locals h (news ++ own) →
      wpAny (model prog w) A (execs body env) (SoEnd g S env.locals (fun m₂ => ∃ d td d' td', P (i + 1) d d' ∧ ∀ y, y ≠ x → m₂ y = if y = nD then some (.str d td) else if y = nW then some (.str d' td') else m₀ y) (news ++ own) s) E { s with heap := h, toks := tk, gens := gs })
    (done : ∀ d td d' td' (u : Option Value) g₁ h tk gs, P n d d' → Heap.SlotsOnly S g g₁ → AllBare gs → Fr g₁ env.locals h (fun y => if y = x then u else if y = nD then some (.str d td) else if y = nW then some (.str d' td') else m₀ y) → News g₁ env.locals h news → Q .next { s with heap := h, toks := tk, gens := gs }) :
    wpAny (model prog w) A (pyIter (.ref r)) (fun it s₂ => LoopSo prog w A env x body Q E it s₂) E s := by
  refine wpAny_pyIter_range hr hsmall ?_
  have W : Walks prog w A s.heap.objs.size [s.heap.objs.size] [s.heap.objs.size] n (fun i v => ∃ t, v = .int (0 + i * 1) t)
      (fun i h => IsRangeIter h s.heap.objs.size (0 + (i : Nat) * 1) ((n : Int) - (i : Nat)) 1) := Walks.range hh _ 0 1 n
  refine ⟨_, _, _, _, _, _, m₀, news, g, S, fun i m' => ∃ d td d' td', P i d d' ∧ ∀ y, y ≠ x → m' y = if y = nD then some (.str d td) else if y = nW then some (.str d' td') else m₀ y, rfl, W, ?_, ?_, hS, ?_, (by show IsRangeIter _ _ _ _ _; rw [hn]; simpa using Heap.get?_push_size _ rfl), F.push _, fun p hp => ⟨Heap.get?_push_of_some _ (N p hp).1, (N p hp).2⟩, hb, ⟨dd, td₀, ww, tw₀, hP, fun y _ => ?_⟩, ?_, ?_⟩
  · intro hm
    exact absurd F.ns.lt ((List.mem_singleton.mp hm) ▸ Nat.lt_irrefl _)
  · intro b' hb
    rw [List.mem_singleton.mp hb]
    exact next_is_new F
  · intro p hp hI
    exact absurd (Heap.lt_size (N p hp).1) ((List.mem_singleton.mp hI) ▸ Nat.lt_irrefl _)
  · by_cases e : y = nD
    · rw [if_pos e, e, hm]
    · rw [if_neg e]
      by_cases e' : y = nW
      · rw [if_pos e', e', hm']
      · rw [if_neg e']
  · rintro i v m₁ g₁ h tk gs own hi ⟨u, rfl⟩ ⟨d, td, d', td', hp, hy⟩ hs hbs F₁ N₁
    have e1 : (0 : Int) + (i : Int) * 1 = (i : Int) := by omega
    rw [e1] at F₁
    have em : (fun y => if y = x then some (Value.int (i : Int) u) else m₁ y) = (fun y => if y = x then some (Value.int (i : Int) u) else if y = nD then some (.str d td) else if y = nW then some (.str d' td') else m₀ y) := by
      funext y
      by_cases q : y = x
      · rw [if_pos q, if_pos q]
      · rw [if_neg q, if_neg q, hy y q]
    rw [em] at F₁
    exact turn i u d td d' td' g₁ h tk gs own hi hp hs hbs F₁ N₁
  · rintro m₁ g₁ h tk gs ⟨d, td, d', td', hp, hy⟩ hs hbs F₁ N₁
    have em : m₁ = (fun y => if y = x then m₁ x else if y = nD then some (.str d td) else if y = nW then some (.str d' td') else m₀ y) := by
      funext y
      by_cases q : y = x
      · rw [if_pos q, q]
      · rw [if_neg q, hy y q]
    rw [em] at F₁
    exact done d td d' td' _ g₁ h tk gs hp hs hbs F₁ N₁
end
end Mine
end
section
open PySem PySem.W PyProof.Rows
set_option maxHeartbeats 3000000
set_option pp.deepTerms false
set_option pp.maxSteps 3000
namespace Mine
theorem c78 (w : World) (mean : ExcName → Option Value) (mg mb : Str → Option Value) (word : Str) (t1 : Tok) (hl : word.length = 7) (R : Str) (hR : ∀ d w, BK word 7 d w → d = R) :
  CLN w mean mg mb 78 8 300 [.str word t1] True (fun t => .str R t) := by
  dsimp only [CLN]; w_top off; k_with_none; k_fill
  k_with "exec For Name Call cons nil" => (k_here; (with_unfolding_all refine' For_so (hs := by intro _; rfl) (hE := by passes_own) ?k1 ?k2 ?_; (case k1 => exact rfl); (case k2 => exact rfl); k_whole))
  k_with "binaryOp Add str str" => (k_here; (refine add_str (hsz := ?hsz) ?_); (case hsz => (refine sz_add (n := 64) ?_ (by decide); (first | ((have h7aw1 := szS (l := some (-1)) (u := none) hB2); omega) | omega))); intro _ _)
  k_with "subscriptTail" => (k_here; ((with_reducible rename Fr _ _ _ _ => Fqw2); (with_reducible rename News _ _ _ _ => Nqw2); (with_reducible show wpAny _ _ (subscriptTail _ (Expr.Slice (some _) none none _) (Value.str _ _) (Value.ref _)) _ _ _); (refine slice_strN_sn (hsz := ?hsz) (s := ⟨_, _, _, _, _⟩) Fqw2 Nqw2 ?_); (case hsz => (refine sz7 ?_; first | assumption | omega | (refine szS ?_; assumption) | (refine szR ?_; assumption))); intro _ _ _ _ _))
  k_with "subscriptTail" => (k_here; ((with_reducible rename Fr _ _ _ _ => Fqw3); (with_reducible rename News _ _ _ _ => Nqw3); (with_reducible show wpAny _ _ (subscriptTail _ (Expr.Slice none (some _) none _) (Value.str _ _) (Value.ref _)) _ _ _); (refine slice_strN_ns (hsz := ?hsz) (s := ⟨_, _, _, _, _⟩) Fqw3 Nqw3 ?_); (case hsz => (refine sz7 ?_; first | assumption | omega | (refine szS ?_; assumption) | (refine szR ?_; assumption))); intro _ _ _ _ _))
  k_with "subscriptTail" => (k_here; ((with_reducible rename Fr _ _ _ _ => Fqw4); (with_reducible rename News _ _ _ _ => Nqw4); (with_reducible show wpAny _ _ (subscriptTail _ (Expr.Slice none none (some _) _) (Value.str _ _) (Value.ref _)) _ _ _); (refine slice_strK_nn (hsz := ?hsz) (s := ⟨_, _, _, _, _⟩) Fqw4 Nqw4 (by decide) ?_); (case hsz => (refine sz7 ?_; first | assumption | omega | (refine szS ?_; assumption) | (refine szR ?_; assumption))); intro _ _ _ _ _))
  intro news dp un gd cn cs a0 ccd cl outer A₀ base h₀ L m s Q E hB hF0 hX hN hT hk hd hu hbare hret
  replace hret := fun t h' tk' gs h₂ => hret t h' tk' gs h₂ trivial
  refine wpAny_call ?_
  k_dflt (refine' code_defN (binds := [(Str.ofString "word", .str word t1)]) ?k1 ?k2 ?k3 ?k4 ?k5 ?kA ?kF ?kK ?k6 ?k7 ?k8 ?k9 ?kB ?_ ?c2 ?c3 ?c4 ?c5; (case kA => exact rfl); (case kF => exact rfl); (case kK => assumption); (case k1 => k_asm); (case k2 => k_asm); (case k3 => k_asm); (case k4 => k_asm); (case k5 => k_asm); (case k6 => k_is); (case k7 => k_is); (case k8 => ktr_room); (case k9 => exact BindsTo.of_eq rfl); (case c5 => decide); (case kB => exact locs rfl); (case c2 => exact rfl); (case c3 => exact rfl); (case c4 => exact rfl); k_whole; intro g' L' h' FG' F' N' B' X' T'; (try dsimp only [List.reverse_cons, List.reverse_nil, List.nil_append, List.cons_append] at F'); (try dsimp only); (try k_lift B'); (try k_fold))
  k_steps
  k_dflt ((rename Fr _ _ _ _ => lF'); (rename News _ _ _ _ => lN'); (refine' range_so (n := 7) (S := frs (envX cn cs L a0 ccd cl :: outer)) (Str.ofString "done") (Str.ofString "word") (Str.ofString "") word _ _ (BK word) (by rfl) ?kr ?ks ?kn ?kS lF' lN' ?kb ?km ?kw ?kp ?gturn ?gdone); (case kr => assumption); (case ks => first | decide | (simp only [hl]; decide)); (case kn => first | decide | (simp only [hl]; decide)); (case kS => exact fun b hb => (B'.frames.mem hb).2.imp fun o ho => ho.1); (case kb => exact hbare); (case km => with_unfolding_all rfl); (case kw => with_unfolding_all rfl); (case kp => exact BK_nil hl); (clear lF' lN'); (case' gdone => (intro d td d' td' u2 g1 h2 tk2 gs2 hd2 hs1 hbs FF NN)); (case' gturn => (intro i t2 d td d' td' g1 h2 tk2 gs2 own hi hd2 hs1 hbs FF NN)); (all_goals (obtain ⟨hB1, hB2⟩ := BK_lens hd2; have B1 := below_so B' hs1; have X1 := hX.keeps B1.stays; have T1 := hT.keeps B1.stays; (try dsimp only); (try k_fold))))
  k_steps
  · k_dflt (refine c64 w mean mg mb _ _ _ _ ?hl _ _ _ _ _ _ _ _ _ _ _ _ _ _ _ _ _ _ B1 (by k_asm) hX (by k_asm) hT (by first | exact rfl | assumption) (by ktr_room) (by ktr_units) (by exact hbs) ?_)
    case hl => exact szR (szS hB2)
    intro t9 h9 tk9 gs9 h29 _ hbs9 hs9 F9 N9
    have B9 := below_so B1 hs9
    have X9 := hX.keeps B9.stays
    have T9 := hT.keeps B9.stays
    have l9 : (turnS (Txt.sliceBy (Txt.slice d' none (some (-1))) none none (-1, 0)) (Txt.slice d' (some (-1)) none)).length ≤ 7 := by
      obtain ⟨c9, hc9, _⟩ := last_one (w := d') (by have := hd2.2.2; omega)
      rw [hc9, turnS_len']
      exact szR (szS hB2)
    clear X1 T1
    (try dsimp only)
    (try k_fold)
    k_steps
    k_dflt (exact ⟨rfl, _, _, _, h29, _, rfl, hs1.trans hs9, hbs9, by assumption, by assumption, _, _, _, _, BK_step hi hd2, fun y hy => by
      by_cases q : y = Str.ofString "word"
      · have q2 : y ≠ Str.ofString "done" := by rw [q]; decide
        simp only [if_pos q, if_neg q2]; rfl
      · by_cases q2 : y = Str.ofString "done"
        · simp only [if_neg q, if_pos q2]; rfl
        · simp only [if_neg q, if_neg q2, if_neg hy]⟩)
  · rw [hR _ _ hd2]
    k_dflt (exact ⟨g1, _, _, news, hs1, by assumption, by assumption, fun h₂ hh F N => hret _ _ _ _ _ hbs hh F N⟩)
end Mine
end
section
open PySem PySem.W PyProof.Rows
namespace Mine
theorem thr_len (pre : List Int) : (thr pre).length = pre.length := by
  induction pre using snoc_ind with
  | h0 => rw [thr_nil]; rfl
  | h1 l z ih =>
    rw [thr_snoc, Str.length_append, turnS_len', List.length_append, ih]
    rfl
theorem thr_hw {word : Str} (h7 : word.length = 7) : ∀ pre post, KStt.codes word = pre ++ post → (thr pre).length ≤ 7 := by
  intro pre post h
  have := KStt.codes_length word
  rw [h, List.length_append] at this
  rw [thr_len]
  omega
theorem cl_thr_list (l : List Nat) : cl (thr (l.map fun (c : Nat) => (c : Int))) = thL l := by
  induction l using snoc_ind with
  | h0 => rw [List.map_nil, thr_nil]; rfl
  | h1 l z ih =>
    rw [List.map_append, List.map_cons, List.map_nil, thr_snoc, cl_app, Int.toNat_natCast, cl_turnS, ih]
    unfold thL
    rw [List.foldl_append]
    rfl
theorem cl_thr (x : Str) : cl (thr (KStt.codes x)) = thL (cl x) := cl_thr_list (cl x)
/-- what the way back tells -/
noncomputable def bkS (x : Str) : Str := ⟨(bkL (cl x) 7).1.toArray⟩
theorem cl_bkS (x : Str) : cl (bkS x) = (bkL (cl x) 7).1 := rfl
theorem bk_hR (x : Str) : ∀ d w, BK x 7 d w → d = bkS x := by
  intro d w h
  exact cl_inj (by rw [cl_bkS, h.1])
/-! the two ways undo each other -/
theorem cutL_nil (p : Nat → Bool) (acc : List Nat) : cutL p acc [] = [] := rfl
theorem cutL_pos {p : Nat → Bool} {x : Nat} (hx : p x = true) (acc r : List Nat) : cutL p acc (x :: r) = x :: (acc ++ cutL p [] r) := by rw [cutL, if_pos hx]
theorem cutL_neg {p : Nat → Bool} {x : Nat} (hx : ¬ p x = true) (acc r : List Nat) : cutL p acc (x :: r) = cutL p (acc ++ [x]) r := by rw [cutL, if_neg hx]
theorem cutL_pre (p : Nat → Bool) : ∀ (b acc r : List Nat) (x : Nat), (∀ y ∈ b, p y = false) → p x = true → cutL p acc (b ++ x :: r) = x :: (acc ++ b ++ cutL p [] r)
  | [], acc, r, x, _, hx => by
    rw [List.append_nil]
    exact cutL_pos hx acc r
  | y :: b, acc, r, x, hb, hx => by
    show cutL p acc (y :: (b ++ x :: r)) = _
    rw [cutL_neg (by rw [hb y (List.mem_cons_self ..)]; simp), cutL_pre p b (acc ++ [y]) r x (fun z hz => hb z (List.mem_cons_of_mem _ hz)) hx]
    simp
/-- the list ends in a sign that is cut behind -/
noncomputable def EndsP (p : Nat → Bool) (l : List Nat) : Prop := l = [] ∨ ∃ r z, l = r ++ [z] ∧ p z = true
theorem endsP_tail {p : Nat → Bool} {x : Nat} {r : List Nat} (h : EndsP p (x :: r)) : r = [] ∧ p x = true ∨ r ≠ [] ∧ EndsP p r := by
  rcases h with h | ⟨s, z, h, hz⟩
  · cases h
  · cases s with
    | nil =>
      obtain ⟨rfl, rfl⟩ := List.cons.inj h
      exact .inl ⟨rfl, hz⟩
    | cons y s =>
      obtain ⟨rfl, rfl⟩ := List.cons.inj h
      exact .inr ⟨by simp, .inr ⟨s, z, rfl, hz⟩⟩
theorem cutL_app (p : Nat → Bool) : ∀ (l acc m : List Nat), l ≠ [] → EndsP p l → cutL p acc (l ++ m) = cutL p acc l ++ cutL p [] m
  | [], _, _, h, _ => absurd rfl h
  | x :: r, acc, m, _, h => by
    show cutL p acc (x :: (r ++ m)) = cutL p acc (x :: r) ++ cutL p [] m
    rcases endsP_tail h with ⟨rfl, hx⟩ | ⟨hr, hr2⟩
    · rw [cutL_pos hx, cutL_pos hx, cutL_nil]
      simp
    · by_cases hx : p x = true
      · rw [cutL_pos hx, cutL_pos hx, cutL_app p r [] m hr hr2]
        simp
      · rw [cutL_neg hx, cutL_neg hx, cutL_app p r (acc ++ [x]) m hr hr2]
theorem cutL_app' (p : Nat → Bool) (l m : List Nat) (h : EndsP p l) : cutL p [] (l ++ m) = cutL p [] l ++ cutL p [] m := by
  by_cases hl : l = []
  · subst hl; simp [cutL_nil]
  · exact cutL_app p l [] m hl h
/-- what is turned begins with a sign that is cut behind -/
theorem cutL_head {p : Nat → Bool} : ∀ {l acc : List Nat}, l ≠ [] → EndsP p l → ∃ x r, cutL p acc l = x :: r ∧ p x = true
  | [], _, h, _ => absurd rfl h
  | x :: r, acc, _, h => by
    unfold cutL
    by_cases hx : p x = true
    · rw [if_pos hx]; exact ⟨_, _, rfl, hx⟩
    · rw [if_neg hx]
      rcases endsP_tail h with ⟨_, hx'⟩ | ⟨hr, hr2⟩
      · exact absurd hx' hx
      · exact cutL_head hr hr2
theorem endsP_rev {p : Nat → Bool} {l : List Nat} (h : EndsP p l) : EndsP p (cutL p [] l).reverse := by
  by_cases hl : l = []
  · subst hl; exact .inl rfl
  · obtain ⟨x, r, e, hx⟩ := cutL_head (acc := []) hl h
    exact .inr ⟨r.reverse, x, by rw [e]; simp, hx⟩
theorem cutL_back (p : Nat → Bool) : ∀ (l acc : List Nat), (∀ y ∈ acc, p y = false) → (l = [] → acc = []) → EndsP p l → (cutL p [] (cutL p acc l).reverse).reverse = acc ++ l
  | [], acc, _, h, _ => by rw [h rfl]; rfl
  | x :: r, acc, ha, _, h => by
    by_cases hx : p x = true
    · have e : cutL p acc (x :: r) = x :: (acc ++ cutL p [] r) := by
        rw [cutL, if_pos hx]
      have hr : EndsP p r := by
        rcases endsP_tail h with ⟨rfl, _⟩ | ⟨_, h2⟩
        · exact .inl rfl
        · exact h2
      have ih := cutL_back p r [] (by simp) (fun _ => rfl) hr
      rw [List.nil_append] at ih
      have e2 : (x :: (acc ++ cutL p [] r)).reverse = (cutL p [] r).reverse ++ (acc.reverse ++ x :: []) := by simp
      rw [e, e2, cutL_app' p _ _ (endsP_rev hr), cutL_pre p acc.reverse [] [] x (fun y hy => ha y (List.mem_reverse.mp hy)) hx, List.reverse_append, ih]
      simp [cutL_nil]
    · have hx' : p x = false := by cases h' : p x <;> simp_all
      have e : cutL p acc (x :: r) = cutL p (acc ++ [x]) r := by
        rw [cutL, if_neg hx]
      rcases endsP_tail h with ⟨_, hx2⟩ | ⟨hr, hr2⟩
      · exact absurd hx2 hx
      · rw [e, cutL_back p r (acc ++ [x]) (fun y hy => by
          rcases List.mem_append.mp hy with q | q
          · exact ha y q
          · rw [List.mem_singleton.mp q]; exact hx') (fun q => absurd q hr) hr2]
        simp
theorem turnP_ends (t : List Nat) (c : Nat) : EndsP (turnP t c) t := by
  rcases List.eq_nil_or_concat t with rfl | ⟨l, z, rfl⟩
  · exact .inl rfl
  · rw [List.concat_eq_append]
    exact .inr ⟨l, z, rfl, by unfold turnP; simp⟩
theorem turn_back (t : List Nat) (c : Nat) : (turnL (turnL t c).reverse c).reverse = t := by
  by_cases ht : t = []
  · subst ht; rfl
  have hE := turnP_ends t c
  obtain ⟨x, r, e, hx⟩ := cutL_head (acc := []) ht hE
  have hp : turnP (turnL t c).reverse c = turnP t c := by
    funext y
    have hl : ((turnL t c).reverse).getLast?.getD 0 = x := by
      have : turnL t c = x :: r := e
      rw [this]; simp
    unfold turnP at hx ⊢
    rw [hl]
    have hx' : decide (x ≤ c) = decide (t.getLast?.getD 0 ≤ c) := by simpa using hx
    rw [hx']
  have : turnL (turnL t c).reverse c = cutL (turnP t c) [] (turnL t c).reverse := by
    show cutL (turnP (turnL t c).reverse c) [] _ = _
    rw [hp]
  rw [this]
  have := cutL_back (turnP t c) t [] (by simp) (fun _ => rfl) hE
  exact this
theorem turn_back' (t : List Nat) (c : Nat) : turnL ((turnL t.reverse c).reverse) c = t := by
  have := turn_back t.reverse c
  exact List.reverse_inj.mp this
theorem thL_snoc (l : List Nat) (z : Nat) : thL (l ++ [z]) = turnL (thL l) z ++ [z] := by
  unfold thL
  rw [List.foldl_append]
  rfl
theorem bkL_succ (w : List Nat) (i : Nat) : bkL w (i + 1) = ((bkL w i).2.drop ((bkL w i).2.length - 1) ++ (bkL w i).1, (turnL ((bkL w i).2.take ((bkL w i).2.length - 1)).reverse ((bkL w i).2.getLast?.getD 0)).reverse) := rfl
theorem bkL_thL : ∀ (v u : List Nat), bkL (thL (u ++ v)) v.length = (v, thL u)
  | [], u => by simp [bkL]
  | z :: v, u => by
    have ih := bkL_thL v (u ++ [z])
    rw [List.append_assoc] at ih
    have e : u ++ z :: v = u ++ ([z] ++ v) := rfl
    rw [← e] at ih
    rw [List.length_cons, bkL_succ, ih]
    simp only [thL_snoc]
    have h1 : ((turnL (thL u) z ++ [z]).length - 1) = (turnL (thL u) z).length := by simp
    rw [h1, List.drop_left, List.take_left, List.getLast?_append]
    simp [turn_back]
theorem thL_len (l : List Nat) : (thL l).length = l.length := by
  induction l using snoc_ind with
  | h0 => rfl
  | h1 l z ih => rw [thL_snoc, List.length_append, turnL_len, ih, List.length_append]
theorem bk_th {l : List Nat} (h : l.length = 7) : (bkL (thL l) 7).1 = l := by
  have := bkL_thL l []
  rw [List.nil_append, h] at this
  rw [this]
theorem bkL_len (w : List Nat) : ∀ i, i ≤ w.length → (bkL w i).1.length = i ∧ (bkL w i).2.length = w.length - i
  | 0, _ => by simp [bkL]
  | i + 1, h => by
    obtain ⟨h1, h2⟩ := bkL_len w i (by omega)
    constructor
    · show ((bkL w i).2.drop ((bkL w i).2.length - 1) ++ (bkL w i).1).length = _
      rw [List.length_append, List.length_drop, h1, h2, Nat.sub_sub_self (Nat.sub_pos_of_lt h), Nat.add_comm]
    · show ((turnL ((bkL w i).2.take ((bkL w i).2.length - 1)).reverse ((bkL w i).2.getLast?.getD 0)).reverse).length = _
      rw [List.length_reverse, turnL_len, List.length_reverse, List.length_take, h2, Nat.min_eq_left (Nat.sub_le ..), Nat.sub_sub]
/-- the way there from a word that stands already -/
noncomputable def thF (r d : List Nat) : List Nat := d.foldl (fun d n => turnL d n ++ [n]) r
theorem bkL_fold (w : List Nat) : ∀ i, i ≤ w.length → thF (bkL w i).2 (bkL w i).1 = w
  | 0, _ => rfl
  | i + 1, h => by
    have ih := bkL_fold w i (by omega)
    have hl := (bkL_len w i (by omega)).2
    generalize hq : bkL w i = q at ih hl
    obtain ⟨d, r⟩ := q
    simp only at ih hl
    rcases List.eq_nil_or_concat r with rfl | ⟨l, z, rfl⟩
    · simp at hl; omega
    · rw [List.concat_eq_append] at *
      show thF ((turnL (((bkL w i).2.take ((bkL w i).2.length - 1)).reverse) ((bkL w i).2.getLast?.getD 0)).reverse) ((bkL w i).2.drop ((bkL w i).2.length - 1) ++ (bkL w i).1) = w
      rw [hq]
      simp only [List.length_append, List.length_cons, List.length_nil, Nat.zero_add, Nat.add_sub_cancel, List.take_left, List.drop_left, List.getLast?_append]
      unfold thF at ih ⊢
      rw [List.foldl_append]
      simp only [List.foldl_cons, List.foldl_nil]
      have : (([z].getLast?).or l.getLast?).getD 0 = z := by simp
      rw [this, turn_back']
      exact ih
theorem th_bk {l : List Nat} (h : l.length = 7) : thL (bkL l 7).1 = l := by
  have h1 := bkL_fold l 7 (by omega)
  have h2 := (bkL_len l 7 (by omega)).2
  have h3 : (bkL l 7).2 = [] := List.eq_nil_of_length_eq_zero (by omega)
  rw [h3] at h1
  exact h1
theorem bkS_len {x : Str} (h : x.length = 7) : (bkS x).length = 7 := by
  rw [← cl_len, cl_bkS, (bkL_len (cl x) 7 (by rw [cl_len]; omega)).1]
theorem back_hR {word there : Str} (h7 : word.length = 7) (ht : cl there = thL (cl word)) : ∀ d w, BK there 7 d w → d = word := by
  intro d w h
  refine cl_inj ?_
  have := h.1
  rw [ht] at this
  have e := bk_th (l := cl word) (by rw [cl_len]; exact h7)
  rw [this] at e
  exact e
theorem thr_bkS {word : Str} (h7 : word.length = 7) : thr (KStt.codes (bkS word)) = word := by
  refine cl_inj ?_
  rw [cl_thr, cl_bkS, th_bk (by rw [cl_len]; exact h7)]
end Mine
end
section
open PySem PySem.W PyProof.Rows
namespace Mine
/-- the figures to the base 5, n places left -/
noncomputable def wgt : Nat → List Nat → Int
  | _, [] => 0
  | 0, _ :: _ => 0
  | n + 1, c :: r => (1 + ixC c) * 5 ^ n + wgt n r
theorem wgt_snoc (c : Nat) : ∀ (n : Nat) (l : List Nat), l.length < n → wgt n (l ++ [c]) = wgt n l + (1 + ixC c) * 5 ^ (n - 1 - l.length)
  | 0, _, h => absurd h (Nat.not_lt_zero _)
  | n + 1, [], _ => by
    show (1 + ixC c) * 5 ^ n + wgt n [] = 0 + (1 + ixC c) * 5 ^ (n + 1 - 1 - 0)
    have : wgt n [] = 0 := by cases n <;> rfl
    rw [this]
    simp
  | n + 1, x :: l, h => by
    have hl : l.length < n := by simpa using h
    show (1 + ixC x) * 5 ^ n + wgt n (l ++ [c]) = (1 + ixC x) * 5 ^ n + wgt n l + (1 + ixC c) * 5 ^ (n + 1 - 1 - (l.length + 1))
    rw [wgt_snoc c n l hl, show n + 1 - 1 - (l.length + 1) = n - 1 - l.length by rw [Nat.add_sub_cancel, Nat.add_comm l.length 1, Nat.sub_add_eq]]
    exact (Int.add_assoc ..).symm
theorem wgt_figT (l : List Nat) (h7 : l.length ≤ 7) : ∀ i, i ≤ l.length → (figT l i).sum = wgt 7 (l.take i)
  | 0, _ => by rw [figT_nil]; rfl
  | i + 1, h => by
    have hi : i < l.length := by omega
    have hc : l[i]? = some l[i] := List.getElem?_eq_getElem hi
    rw [figT_snoc hc, List.sum_append, wgt_figT l h7 i (by omega), List.take_add_one, hc]
    show _ = wgt 7 (l.take i ++ [l[i]])
    rw [wgt_snoc _ 7 _ (by rw [List.length_take]; omega), List.length_take, Nat.min_eq_left (by omega)]
    simp
theorem wgt_bd : ∀ (n : Nat) (l : List Nat), (∀ c ∈ l, Lt c) → 0 ≤ wgt n l ∧ wgt n l < 5 ^ n
  | 0, [], _ => by decide
  | 0, _ :: _, _ => ⟨Int.le_refl _, by show (0 : Int) < 5 ^ 0; decide⟩
  | n + 1, [], _ => ⟨Int.le_refl _, Int.pow_pos (by decide)⟩
  | n + 1, c :: r, h => by
    have ih := wgt_bd n r fun x hx => h x (List.mem_cons_of_mem _ hx)
    have hp : (0 : Int) < 5 ^ n := Int.pow_pos (by decide)
    show 0 ≤ (1 + ixC c) * 5 ^ n + wgt n r ∧ (1 + ixC c) * 5 ^ n + wgt n r < 5 ^ (n + 1)
    rw [Int.pow_succ]
    generalize (5 : Int) ^ n = P at ih hp
    rcases h c (List.mem_cons_self ..) with rfl | rfl | rfl | rfl <;> simp only [ixC, if_true, Nat.reduceEqDiff, if_false] <;> omega
theorem wgt_lt : ∀ (n : Nat) (a b : List Nat), a.length ≤ n → b.length ≤ n → (∀ c ∈ a, Lt c) → (∀ c ∈ b, Lt c) → (a < b ↔ wgt n a < wgt n b)
  | 0, a, b, ha, hb, _, _ => by
    rw [List.eq_nil_of_length_eq_zero (Nat.le_zero.mp ha), List.eq_nil_of_length_eq_zero (Nat.le_zero.mp hb)]
    simp
  | n + 1, [], [], _, _, _, _ => by simp
  | n + 1, [], d :: s, _, _, _, hb => by
    have h2 := wgt_bd n s fun x hx => hb x (List.mem_cons_of_mem _ hx)
    have hp : (0 : Int) < 5 ^ n := Int.pow_pos (by decide)
    have h1 : ([] : List Nat) < d :: s := List.Lex.nil
    refine ⟨fun _ => ?_, fun _ => h1⟩
    show 0 < (1 + ixC d) * 5 ^ n + wgt n s
    generalize (5 : Int) ^ n = P at h2 hp
    rcases hb d (List.mem_cons_self ..) with rfl | rfl | rfl | rfl <;> simp only [ixC, if_true, Nat.reduceEqDiff, if_false] <;> omega
  | n + 1, c :: r, [], _, _, ha, _ => by
    have h2 := wgt_bd n r fun x hx => ha x (List.mem_cons_of_mem _ hx)
    have hp : (0 : Int) < 5 ^ n := Int.pow_pos (by decide)
    refine ⟨fun h => (by cases h), fun h => ?_⟩
    exfalso
    change (1 + ixC c) * 5 ^ n + wgt n r < 0 at h
    generalize (5 : Int) ^ n = P at h2 hp h
    rcases ha c (List.mem_cons_self ..) with rfl | rfl | rfl | rfl <;> simp only [ixC, if_true, Nat.reduceEqDiff, if_false] at h <;> omega
  | n + 1, c :: r, d :: s, ha, hb, hca, hcb => by
    have ih := wgt_lt n r s (by simpa using ha) (by simpa using hb) (fun x hx => hca x (List.mem_cons_of_mem _ hx)) (fun x hx => hcb x (List.mem_cons_of_mem _ hx))
    have h1 := wgt_bd n r fun x hx => hca x (List.mem_cons_of_mem _ hx)
    have h2 := wgt_bd n s fun x hx => hcb x (List.mem_cons_of_mem _ hx)
    have hp : (0 : Int) < 5 ^ n := Int.pow_pos (by decide)
    rw [List.cons_lt_cons_iff, ih]
    show _ ↔ (1 + ixC c) * 5 ^ n + wgt n r < (1 + ixC d) * 5 ^ n + wgt n s
    generalize (5 : Int) ^ n = P at h1 h2 hp
    generalize wgt n r = x at *
    generalize wgt n s = y at *
    clear ih
    rcases hca c (List.mem_cons_self ..) with rfl | rfl | rfl | rfl <;> rcases hcb d (List.mem_cons_self ..) with rfl | rfl | rfl | rfl <;> simp [ixC] <;> omega
theorem order_law {word front : Str} (h7 : word.length = 7) (hf : front.length ≤ 7) (hw : Signs word) (hS : Signs front) : strcoll word front =
    if (if (figT (cl word) word.length).sum - (figT (cl front) front.length).sum < 1 then (figT (cl word) word.length).sum - (figT (cl front) front.length).sum else 1) > -1 then
      if (figT (cl word) word.length).sum - (figT (cl front) front.length).sum < 1 then (figT (cl word) word.length).sum - (figT (cl front) front.length).sum else 1
    else -1 := by
  have h1 := wgt_figT (cl word) (by rw [cl_len]; omega) word.length (by rw [cl_len]; exact Nat.le_refl _)
  have h2 := wgt_figT (cl front) (by rw [cl_len]; omega) front.length (by rw [cl_len]; exact Nat.le_refl _)
  rw [List.take_of_length_le (by rw [cl_len]; exact Nat.le_refl _)] at h1 h2
  have k1 := wgt_lt 7 (cl word) (cl front) (by rw [cl_len]; omega) (by rw [cl_len]; omega) hw hS
  have k2 := wgt_lt 7 (cl front) (cl word) (by rw [cl_len]; omega) (by rw [cl_len]; omega) hS hw
  unfold strcoll
  rw [h1, h2]
  change b2i (decide (cl front < cl word)) - b2i (decide (cl word < cl front)) = _
  simp only [k1, k2]
  generalize wgt 7 (cl word) = x
  generalize wgt 7 (cl front) = y
  unfold b2i
  by_cases q1 : x < y
  · have q2 : ¬ y < x := by omega
    simp only [q1, q2, decide_true, decide_false, if_true]
    simp only [Bool.false_eq_true, if_false]
    split <;> split at * <;> omega
  · by_cases q2 : y < x
    · simp only [q1, q2, decide_true, decide_false, if_true]
      simp only [Bool.false_eq_true, if_false]
      split <;> split at * <;> omega
    · simp only [q1, q2, decide_false]
      simp only [Bool.false_eq_true, if_false]
      split <;> split at * <;> omega
end Mine
end
section
open PySem PySem.W PyProof.Rows
namespace Mine
theorem cutL_perm (p : Nat → Bool) : ∀ (l acc : List Nat), (l = [] → acc = []) → EndsP p l → (cutL p acc l).Perm (acc ++ l)
  | [], acc, h, _ => by rw [h rfl]; exact .refl _
  | x :: r, acc, _, h => by
    by_cases hx : p x = true
    · rw [cutL_pos hx]
      have hr : EndsP p r := by
        rcases endsP_tail h with ⟨rfl, _⟩ | ⟨_, h2⟩
        · exact .inl rfl
        · exact h2
      have ih := cutL_perm p r [] (fun _ => rfl) hr
      rw [List.nil_append] at ih
      exact (List.Perm.cons x (List.Perm.append_left acc ih)).trans List.perm_middle.symm
    · rw [cutL_neg hx]
      rcases endsP_tail h with ⟨_, hx2⟩ | ⟨hr, hr2⟩
      · exact absurd hx2 hx
      · have ih := cutL_perm p r (acc ++ [x]) (fun q => absurd q hr) hr2
        rw [List.append_assoc] at ih
        exact ih
theorem turnL_perm (t : List Nat) (c : Nat) : (turnL t c).Perm t := cutL_perm _ t [] (fun _ => rfl) (turnP_ends t c)
theorem thL_perm (l : List Nat) : (thL l).Perm l := by
  induction l using snoc_ind with
  | h0 => exact .refl _
  | h1 l z ih =>
    rw [thL_snoc]
    exact ((turnL_perm _ z).trans ih).append_right [z]
theorem thL_lt {w : Str} (h : Signs w) {c : Nat} (hc : c ∈ thL (cl w)) : Lt c := h c ((thL_perm _).mem_iff.mp hc)
/-- how many signs ahead of the place i are unlike the k-th -/
noncomputable def unI (w : List Nat) (k : Nat) : Nat → Nat
  | 0 => 0
  | i + 1 => unI w k i + if w.getD i 0 = w.getD k 0 then 0 else 1
noncomputable def unK (w : List Nat) : Nat → Nat
  | 0 => 0
  | k + 1 => unK w k + unI w k k
noncomputable def sgI (a b : Nat) : Int := b2i (decide (b < a)) - b2i (decide (a < b))
noncomputable def prI (w : List Nat) (k : Nat) : Nat → Int
  | 0 => 0
  | i + 1 => prI w k i + sgI (w.getD i 0) (w.getD k 0)
noncomputable def prK (w : List Nat) : Nat → Int
  | 0 => 0
  | k + 1 => prK w k + prI w k k
/-- the falls, counted from 1 and added up -/
noncomputable def majS (l : List Nat) : Int := ((fallsL l).map fun (k : Nat) => (k : Int) + 1).sum
/-! pairs out of order -/
abbrev gtC (l : List Nat) (c : Nat) : Nat := l.countP fun a => decide (c < a)
abbrev ltC (l : List Nat) (c : Nat) : Nat := l.countP fun a => decide (a < c)
abbrev leC (l : List Nat) (c : Nat) : Nat := l.countP fun a => decide (a ≤ c)
abbrev neC (l : List Nat) (c : Nat) : Nat := l.countP fun a => decide (a ≠ c)
noncomputable def invL : List Nat → Nat
  | [] => 0
  | x :: r => ltC r x + invL r
noncomputable def unL : List Nat → Nat
  | [] => 0
  | x :: r => neC r x + unL r
theorem cP_snoc (p : Nat → Bool) (l : List Nat) (c : Nat) : (l ++ [c]).countP p = l.countP p + if p c = true then 1 else 0 := by
  rw [List.countP_append, List.countP_singleton]
theorem invL_snoc (c : Nat) : ∀ l, invL (l ++ [c]) = invL l + gtC l c
  | [] => rfl
  | x :: l => by
    show ltC (l ++ [c]) x + invL (l ++ [c]) = ltC l x + invL l + gtC (x :: l) c
    rw [invL_snoc c l]
    unfold ltC gtC
    rw [cP_snoc, List.countP_cons]
    omega
theorem unL_snoc (c : Nat) : ∀ l, unL (l ++ [c]) = unL l + neC l c
  | [] => rfl
  | x :: l => by
    show neC (l ++ [c]) x + unL (l ++ [c]) = neC l x + unL l + neC (x :: l) c
    rw [unL_snoc c l]
    unfold neC
    rw [cP_snoc, List.countP_cons]
    by_cases h : c = x
    · simp [h]; omega
    · have h' : x ≠ c := Ne.symm h
      simp [h, h']; omega
theorem unL_perm {a b : List Nat} (h : a.Perm b) : unL a = unL b := by
  induction h with
  | nil => rfl
  | cons x h ih => show neC _ x + _ = neC _ x + _; unfold neC; rw [ih, h.countP_eq]
  | swap x y l =>
    show neC (x :: l) y + (neC l x + unL l) = neC (y :: l) x + (neC l y + unL l)
    unfold neC
    rw [List.countP_cons, List.countP_cons]
    by_cases h : x = y
    · simp [h]
    · have h' : y ≠ x := Ne.symm h
      simp [h, h']; omega
  | trans _ _ h1 h2 => exact h1.trans h2
theorem unI_take (w : List Nat) (k : Nat) : ∀ i, i ≤ w.length → unI w k i = neC (w.take i) (w.getD k 0)
  | 0, _ => rfl
  | i + 1, h => by
    have hi : i < w.length := by omega
    have hc : w[i]? = some w[i] := List.getElem?_eq_getElem hi
    show unI w k i + (if w.getD i 0 = w.getD k 0 then 0 else 1) = _
    rw [unI_take w k i (by omega), List.take_add_one, hc]
    show _ = neC (w.take i ++ [w[i]]) _
    unfold neC
    rw [cP_snoc]
    have e : w.getD i 0 = w[i] := by rw [List.getD_eq_getElem?_getD, hc]; rfl
    rw [e]
    by_cases q : w[i] = w.getD k 0 <;> simp [q]
theorem prI_take (w : List Nat) (k : Nat) : ∀ i, i ≤ w.length → prI w k i + (unI w k i : Int) = 2 * (gtC (w.take i) (w.getD k 0) : Int)
  | 0, _ => rfl
  | i + 1, h => by
    have hi : i < w.length := by omega
    have hc : w[i]? = some w[i] := List.getElem?_eq_getElem hi
    have ih := prI_take w k i (by omega)
    show prI w k i + sgI (w.getD i 0) (w.getD k 0) + ((unI w k i + (if w.getD i 0 = w.getD k 0 then 0 else 1) : Nat) : Int) = _
    rw [List.take_add_one, hc]
    show _ = 2 * (gtC (w.take i ++ [w[i]]) _ : Int)
    unfold gtC at ih ⊢
    rw [cP_snoc]
    have e : w.getD i 0 = w[i] := by rw [List.getD_eq_getElem?_getD, hc]; rfl
    rw [e]
    generalize w[i] = a
    generalize w.getD k 0 = b at ih ⊢
    unfold sgI b2i
    by_cases q1 : a < b
    · have q2 : ¬ b < a := by omega
      have q3 : ¬ a = b := by omega
      simp [q1, q2, q3]; omega
    · by_cases q2 : b < a
      · have q3 : ¬ a = b := by omega
        simp [q1, q2, q3]; omega
      · have q3 : a = b := by omega
        simp [q3]; omega
theorem unK_take (w : List Nat) : ∀ k, k ≤ w.length → unK w k = unL (w.take k)
  | 0, _ => rfl
  | k + 1, h => by
    have hi : k < w.length := by omega
    have hc : w[k]? = some w[k] := List.getElem?_eq_getElem hi
    have e : w.getD k 0 = w[k] := by rw [List.getD_eq_getElem?_getD, hc]; rfl
    show unK w k + unI w k k = _
    rw [unK_take w k (by omega), unI_take w k k (by omega), List.take_add_one, hc, e]
    show _ = unL (w.take k ++ [w[k]])
    rw [unL_snoc]
theorem prK_take (w : List Nat) : ∀ k, k ≤ w.length → prK w k + (unK w k : Int) = 2 * (invL (w.take k) : Int)
  | 0, _ => rfl
  | k + 1, h => by
    have hi : k < w.length := by omega
    have hc : w[k]? = some w[k] := List.getElem?_eq_getElem hi
    have e : w.getD k 0 = w[k] := by rw [List.getD_eq_getElem?_getD, hc]; rfl
    have ih := prK_take w k (by omega)
    have h2 := prI_take w k k (by omega)
    show prK w k + prI w k k + ((unK w k + unI w k k : Nat) : Int) = _
    rw [List.take_add_one, hc]
    show _ = 2 * (invL (w.take k ++ [w[k]]) : Int)
    rw [invL_snoc, ← e]
    omega
theorem un_th {l : List Nat} (h : l.length = 7) : unK (thL l) 7 = unK l 7 := by
  have h' : (thL l).length = 7 := by rw [thL_len, h]
  rw [unK_take _ 7 (by omega), unK_take _ 7 (by omega), List.take_of_length_le (by omega), List.take_of_length_le (by omega)]
  exact unL_perm (thL_perm l)
/-! Foata's turning: what it does to the pairs out of order -/
noncomputable def cross : List Nat → List Nat → Nat
  | [], _ => 0
  | x :: a, b => ltC b x + cross a b
theorem invL_app : ∀ a b, invL (a ++ b) = invL a + invL b + cross a b
  | [], b => by simp [invL, cross]
  | x :: a, b => by
    show ltC (a ++ b) x + invL (a ++ b) = ltC a x + invL a + invL b + (ltC b x + cross a b)
    rw [invL_app a b]
    unfold ltC
    rw [List.countP_append]
    omega
theorem cross_perm {b b' : List Nat} (h : b.Perm b') : ∀ a, cross a b = cross a b'
  | [] => rfl
  | x :: a => by
    show ltC b x + cross a b = ltC b' x + cross a b'
    rw [cross_perm h a]
    unfold ltC
    rw [h.countP_eq]
theorem cross_cons (x : Nat) (b : List Nat) : ∀ a, cross a (x :: b) = gtC a x + cross a b
  | [] => by simp [cross]
  | y :: a => by
    show ltC (x :: b) y + cross a (x :: b) = gtC (y :: a) x + (ltC b y + cross a b)
    rw [cross_cons x b a]
    unfold ltC gtC
    rw [List.countP_cons, List.countP_cons]
    omega
theorem cP_all {p : Nat → Bool} {l : List Nat} (h : ∀ y ∈ l, p y = true) : l.countP p = l.length := List.countP_eq_length.mpr h
theorem cP_none {p : Nat → Bool} {l : List Nat} (h : ∀ y ∈ l, p y = false) : l.countP p = 0 := List.countP_eq_zero.mpr fun y hy => by simp [h y hy]
theorem turnA (c : Nat) (p : Nat → Bool) (hp : ∀ x, p x = decide (x ≤ c)) : ∀ (l acc : List Nat), (∀ y ∈ acc, p y = false) → (l = [] → acc = []) → EndsP p l → invL (cutL p acc l) + gtC (acc ++ l) c = invL (acc ++ l)
  | [], acc, _, h, _ => by rw [h rfl]; rfl
  | x :: r, acc, ha, _, h => by
    by_cases hx : p x = true
    · have hr : EndsP p r := by
        rcases endsP_tail h with ⟨rfl, _⟩ | ⟨_, h2⟩
        · exact .inl rfl
        · exact h2
      have ih := turnA c p hp r [] (by simp) (fun _ => rfl) hr
      have pm := cutL_perm p r [] (fun _ => rfl) hr
      rw [List.nil_append] at ih pm
      rw [cutL_pos hx]
      have hxc : x ≤ c := by rw [hp] at hx; simpa using hx
      have hac : ∀ y ∈ acc, c < y := fun y hy => by have := ha y hy; rw [hp] at this; simpa using this
      show ltC (acc ++ cutL p [] r) x + invL (acc ++ cutL p [] r) + gtC (acc ++ x :: r) c = invL (acc ++ x :: r)
      rw [invL_app, invL_app, cross_perm pm, cross_cons]
      show ltC (acc ++ cutL p [] r) x + (invL acc + invL (cutL p [] r) + cross acc r) + gtC (acc ++ x :: r) c = invL acc + (ltC r x + invL r) + (gtC acc x + cross acc r)
      unfold ltC gtC at *
      rw [List.countP_append, List.countP_append, List.countP_cons, pm.countP_eq]
      rw [cP_none (p := fun a => decide (a < x)) (l := acc) (fun y hy => by have := hac y hy; simp; omega)]
      rw [cP_all (p := fun a => decide (c < a)) (l := acc) (fun y hy => by have := hac y hy; simpa using this)]
      rw [cP_all (p := fun a => decide (x < a)) (l := acc) (fun y hy => by have := hac y hy; simp; omega)]
      have : ¬ c < x := by omega
      simp only [this, decide_false, Bool.false_eq_true, if_false]
      omega
    · have hx' : p x = false := Bool.eq_false_iff.mpr hx
      rcases endsP_tail h with ⟨_, hx2⟩ | ⟨hr, hr2⟩
      · exact absurd hx2 hx
      · have ih := turnA c p hp r (acc ++ [x]) (fun y hy => by
          rcases List.mem_append.mp hy with q | q
          · exact ha y q
          · rw [List.mem_singleton.mp q]; exact hx') (fun q => absurd q hr) hr2
        rw [List.append_assoc] at ih
        rw [cutL_neg hx]
        exact ih
theorem turnB (c : Nat) (p : Nat → Bool) (hp : ∀ x, p x = decide (c < x)) : ∀ (l acc : List Nat), (∀ y ∈ acc, p y = false) → (l = [] → acc = []) → EndsP p l → invL (cutL p acc l) = invL (acc ++ l) + leC (acc ++ l) c
  | [], acc, _, h, _ => by rw [h rfl]; rfl
  | x :: r, acc, ha, _, h => by
    by_cases hx : p x = true
    · have hr : EndsP p r := by
        rcases endsP_tail h with ⟨rfl, _⟩ | ⟨_, h2⟩
        · exact .inl rfl
        · exact h2
      have ih := turnB c p hp r [] (by simp) (fun _ => rfl) hr
      have pm := cutL_perm p r [] (fun _ => rfl) hr
      rw [List.nil_append] at ih pm
      rw [cutL_pos hx]
      have hxc : c < x := by rw [hp] at hx; simpa using hx
      have hac : ∀ y ∈ acc, y ≤ c := fun y hy => by have := ha y hy; rw [hp] at this; simpa using this
      show ltC (acc ++ cutL p [] r) x + invL (acc ++ cutL p [] r) = invL (acc ++ x :: r) + leC (acc ++ x :: r) c
      rw [invL_app, invL_app, cross_perm pm, cross_cons]
      show ltC (acc ++ cutL p [] r) x + (invL acc + invL (cutL p [] r) + cross acc r) = invL acc + (ltC r x + invL r) + (gtC acc x + cross acc r) + leC (acc ++ x :: r) c
      unfold ltC gtC leC at *
      rw [List.countP_append, List.countP_append, List.countP_cons, pm.countP_eq]
      rw [cP_all (p := fun a => decide (a < x)) (l := acc) (fun y hy => by have := hac y hy; simp; omega)]
      rw [cP_all (p := fun a => decide (a ≤ c)) (l := acc) (fun y hy => by have := hac y hy; simpa using this)]
      rw [cP_none (p := fun a => decide (x < a)) (l := acc) (fun y hy => by have := hac y hy; simp; omega)]
      have : ¬ x ≤ c := by omega
      simp only [this, decide_false, Bool.false_eq_true, if_false]
      omega
    · have hx' : p x = false := Bool.eq_false_iff.mpr hx
      rcases endsP_tail h with ⟨_, hx2⟩ | ⟨hr, hr2⟩
      · exact absurd hx2 hx
      · have ih := turnB c p hp r (acc ++ [x]) (fun y hy => by
          rcases List.mem_append.mp hy with q | q
          · exact ha y q
          · rw [List.mem_singleton.mp q]; exact hx') (fun q => absurd q hr) hr2
        rw [List.append_assoc] at ih
        rw [cutL_neg hx]
        exact ih
theorem le_gt (c : Nat) : ∀ l : List Nat, leC l c + gtC l c = l.length
  | [] => rfl
  | x :: l => by
    have ih := le_gt c l
    unfold leC gtC at *
    rw [List.countP_cons, List.countP_cons, List.length_cons]
    by_cases h : x ≤ c
    · have h' : ¬ c < x := by omega
      simp [h, h']; omega
    · have h' : c < x := by omega
      simp [h, h']; omega
theorem foata (t : List Nat) (b c : Nat) (hb : t.getLast? = some b) : invL (turnL t c ++ [c]) = invL t + if c < b then t.length else 0 := by
  have hE := turnP_ends t c
  have hne : t ≠ [] := by intro q; rw [q] at hb; cases hb
  rw [invL_snoc]
  have pm := turnL_perm t c
  have e : gtC (turnL t c) c = gtC t c := by unfold gtC; rw [pm.countP_eq]
  rw [e]
  by_cases h : c < b
  · rw [if_pos h]
    have hp : ∀ x, turnP t c x = decide (c < x) := by
      intro x
      unfold turnP
      rw [hb]
      have h1 : ¬ b ≤ c := by omega
      by_cases q : x ≤ c
      · have q' : ¬ c < x := by omega
        simp [q, q', h1]
      · have q' : c < x := by omega
        simp [q, q', h1]
    have := turnB c (turnP t c) hp t [] (by simp) (fun _ => rfl) hE
    rw [List.nil_append] at this
    have e2 := le_gt c t
    unfold turnL
    omega
  · rw [if_neg h]
    have hp : ∀ x, turnP t c x = decide (x ≤ c) := by
      intro x
      unfold turnP
      rw [hb]
      have h1 : b ≤ c := by omega
      by_cases q : x ≤ c <;> simp [q, h1]
    have := turnA c (turnP t c) hp t [] (by simp) (fun _ => rfl) hE
    rw [List.nil_append] at this
    unfold turnL
    omega
noncomputable def majK (w : List Nat) (n : Nat) : Nat := (((List.range n).filter (fallAt w)).map fun k => k + 1).sum
theorem majK_inv (w : List Nat) : ∀ n, n + 1 ≤ w.length → invL (thL (w.take (n + 1))) = majK w n
  | 0, h => by
    cases w with
    | nil => simp at h
    | cons x r => rfl
  | n + 1, h => by
    have ih := majK_inv w n (by omega)
    have h1 : w[n + 1]? = some w[n + 1] := List.getElem?_eq_getElem (by omega)
    have h0 : w[n]? = some w[n] := List.getElem?_eq_getElem (by omega)
    have e1 : w.take (n + 1 + 1) = w.take (n + 1) ++ [w[n + 1]] := by rw [List.take_add_one, h1]; rfl
    have e0 : w.take (n + 1) = w.take n ++ [w[n]] := by rw [List.take_add_one, h0]; rfl
    have hl : (thL (w.take (n + 1))).getLast? = some w[n] := by rw [e0, thL_snoc]; simp
    rw [e1, thL_snoc, foata _ _ _ hl, ih, thL_len, List.length_take, Nat.min_eq_left (by omega)]
    unfold majK
    rw [List.range_succ, List.filter_append, List.map_append, List.sum_append]
    have ef : fallAt w n = decide (w[n + 1] < w[n]) := by
      unfold fallAt
      rw [List.getD_eq_getElem?_getD, List.getD_eq_getElem?_getD, h0, h1]
      rfl
    by_cases q : w[n + 1] < w[n]
    · rw [if_pos q, List.filter_cons_of_pos (by rw [ef]; simpa using q)]
      simp
    · rw [if_neg q, List.filter_cons_of_neg (by rw [ef]; simpa using q)]
      simp
theorem majS_K (w : List Nat) : majS w = (majK w 6 : Int) := by
  unfold majS majK fallsL
  generalize (List.range 6).filter (fallAt w) = fs
  induction fs with
  | nil => rfl
  | cons k r ih =>
    rw [List.map_cons, List.map_cons, List.sum_cons, List.sum_cons, ih]
    omega
theorem maj_law {l : List Nat} (h : l.length = 7) : prK (thL l) 7 = 2 * majS l - (unK (thL l) 7 : Int) := by
  have h' : (thL l).length = 7 := by rw [thL_len, h]
  have h1 := prK_take (thL l) 7 (by omega)
  have h2 := majK_inv l 6 (by omega)
  rw [List.take_of_length_le (by omega)] at h1 h2
  rw [majS_K]
  omega
end Mine
end
section
open PySem PySem.W PyProof.Rows
namespace Mine
theorem unI_le (w : List Nat) (k : Nat) : ∀ i, unI w k i ≤ i
  | 0 => Nat.le_refl _
  | i + 1 => by
    have := unI_le w k i
    unfold unI
    split <;> omega
theorem unK_le (w : List Nat) : ∀ k, k ≤ 7 → unK w k ≤ 7 * k
  | 0, _ => Nat.le_refl _
  | k + 1, h => by
    have := unK_le w k (by omega)
    have := unI_le w k k
    unfold unK
    omega
theorem unI_same {w : List Nat} {k i c d : Nat} (hc : w[i]? = some c) (hd : w[k]? = some d) (h : c = d) : unI w k (i + 1) = unI w k i := by
  show unI w k i + (if w.getD i 0 = w.getD k 0 then 0 else 1) = _
  rw [List.getD_eq_getElem?_getD, List.getD_eq_getElem?_getD, hc, hd, if_pos (by simpa using h)]
  rfl
theorem unI_diff {w : List Nat} {k i c d : Nat} (hc : w[i]? = some c) (hd : w[k]? = some d) (h : c ≠ d) : unI w k (i + 1) = unI w k i + 1 := by
  show unI w k i + (if w.getD i 0 = w.getD k 0 then 0 else 1) = _
  rw [List.getD_eq_getElem?_getD, List.getD_eq_getElem?_getD, hc, hd, if_neg (by simpa using h)]
theorem sgn_eq {c d : Nat} : ((⟨#[c]⟩ : Str) != ⟨#[d]⟩) = true ↔ c ≠ d := by
  constructor
  · intro h q
    subst q
    simp at h
  · intro h
    have : (⟨#[c]⟩ : Str) ≠ ⟨#[d]⟩ := fun q => h (by injection q with q; simpa using q)
    simpa using this
end Mine
namespace Mine
theorem majS_nn (l : List Nat) : 0 ≤ majS l := by
  unfold majS
  generalize fallsL l = fs
  induction fs with
  | nil => exact Int.le_refl _
  | cons k r ih => rw [List.map_cons, List.sum_cons]; omega
theorem pair1 {word there : Str} (h7 : word.length = 7) (ht : cl there = thL (cl word)) : prK (cl there) 7 = 2 * majS (cl word) - (unK (cl word) 7 : Int) := by
  have hl : (cl word).length = 7 := by rw [cl_len, h7]
  rw [ht, maj_law hl, un_th hl]
theorem pair2 {word back : Str} (h7 : word.length = 7) (hb : cl back = (bkL (cl word) 7).1) : prK (cl word) 7 = 2 * majS (cl back) - (unK (cl word) 7 : Int) := by
  have hl : (cl word).length = 7 := by rw [cl_len, h7]
  have hbl : (cl back).length = 7 := by rw [hb]; exact (bkL_len (cl word) 7 (by omega)).1
  have e : thL (cl back) = cl word := by rw [hb]; exact th_bk hl
  have := maj_law hbl
  rw [e] at this
  exact this
theorem thL_lt' {word back : Str} (h : Signs word) (h7 : word.length = 7) (hb : cl back = (bkL (cl word) 7).1) {c : Nat} (hc : c ∈ cl back) : Lt c := by
  have hl : (cl word).length = 7 := by rw [cl_len, h7]
  have e : thL (cl back) = cl word := by rw [hb]; exact th_bk hl
  exact h c (e ▸ (thL_perm _).mem_iff.mpr hc)
noncomputable def triN : Nat → Nat
  | 0 => 0
  | k + 1 => triN k + k
theorem triN_le : ∀ k, k ≤ 7 → triN k ≤ 7 * k
  | 0, _ => Nat.le_refl _
  | k + 1, h => by
    have := triN_le k (by omega)
    unfold triN
    omega
theorem prI_step {w : List Nat} {k i c d : Nat} (hc : w[i]? = some c) (hd : w[k]? = some d) : prI w k (i + 1) = prI w k i + strcoll ⟨#[c]⟩ ⟨#[d]⟩ := by
  show prI w k i + sgI (w.getD i 0) (w.getD k 0) = _
  rw [List.getD_eq_getElem?_getD, List.getD_eq_getElem?_getD, hc, hd, strcoll_one]
  rfl
theorem snocS {ys : List Value} {n : Nat} {a v b : Int} {t : Tok} (h : ∃ l, IntsAre ys l ∧ l.length = n ∧ l.sum = a) (e : b = a + v) : ∃ l, IntsAre (ys ++ [.int v t]) l ∧ l.length = n + 1 ∧ l.sum = b := by
  obtain ⟨l, h1, h2, h3⟩ := h
  refine ⟨l ++ [v], h1.append (.cons _ _ .nil), by simp [h2], ?_⟩
  rw [List.sum_append, h3, e]
  simp
end Mine
end
section
open PySem PySem.W PyProof.Rows
namespace Mine
theorem subC_bd (a b : Nat) : 0 ≤ subC a b ∧ subC a b ≤ 2 := by
  unfold subC
  split
  · decide
  · split <;> decide
theorem subC_zero (a b : Nat) : subC a b = 0 ↔ a = b := by
  unfold subC
  by_cases h : a = b
  · simp [h]
  · rw [if_neg h]
    split <;> simp [h]
theorem pmin_min (a b : Int) : pmin a b = min a b := by
  unfold pmin
  split
  · exact (Int.min_eq_right (Int.le_of_lt ‹_›)).symm
  · exact (Int.min_eq_left (Int.not_lt.mp ‹_›)).symm
theorem min_sh (t a b : Int) : min (t + a) (t + b) = t + min a b := by
  rcases Int.le_total a b with h | h
  · rw [Int.min_eq_left h, Int.min_eq_left (Int.add_le_add_left h t)]
  · rw [Int.min_eq_right h, Int.min_eq_right (Int.add_le_add_left h t)]
theorem pmin_sh {x y : Int} (t : Int) {a b : Int} (hx : x = t + a) (hy : y = t + b) : pmin x y = t + min a b := by rw [pmin_min, hx, hy, min_sh]
theorem min_sh2 (a b : Int) : min a (b - 2) + 2 = min (2 + a) b := by rw [Int.add_comm, ← min_sh, Int.add_comm 2 (b - 2), Int.sub_add_cancel]
theorem min_cap {e s : Int} (hs : s ≤ 2) : min (min 0 (e - 2) + 2) s = min e s := by
  rw [min_sh2, Int.min_comm (2 + 0) e, Int.min_assoc, Int.min_eq_right (a := 2 + 0) hs]
theorem min_up (m f : Int) : min (2 + m) (f - 2) + 2 = min f (4 + m) := by
  rw [min_sh2, Int.min_comm, ← Int.add_assoc]; rfl
theorem sub2 (bi : Nat) (e : Int) : 2 * ((bi : Int) - 1) + e = 2 * (bi : Int) + (e - 2) := by omega
theorem sub3 (bi : Nat) (f : Int) : 2 * ((bi : Int) - 2) + f = 2 * ((bi : Int) - 1) + (f - 2) := by omega
theorem sub4 (bi : Nat) (m : Int) : 2 * (bi : Int) + m = 2 * ((bi : Int) - 1) + (2 + m) := by omega
theorem big_ok {bi : Nat} {m : Int} (hb : bi ≤ 6) (h : m ≤ 4) : 2 * (bi : Int) + m < 9223372036854775807 := by omega
theorem e1_eq {bi : Nat} {u e s : Int} (hu : u = 2 * ((bi : Int) - 1) + e) (hs : 0 ≤ s ∧ s ≤ 2) : pmin (pmin ((bi : Int) * 2) u + 2) ((bi : Int) * 2 + s) = 2 * (bi : Int) + min e s := by
  rw [Int.mul_comm, pmin_sh (x := 2 * (bi : Int)) (2 * (bi : Int)) (Int.add_zero _).symm (hu.trans (sub2 ..)), Int.add_assoc, pmin_sh _ rfl rfl, min_cap hs.2]
theorem e2_eq {bi : Nat} {u v e f m s : Int} (hu : u = 2 * ((bi : Int) - 1) + e) (hv : v = 2 * ((bi : Int) - 2) + f) : pmin (pmin (2 * (bi : Int) + m) v + 2) (u + s) = 2 * ((bi : Int) - 1) + min (min f (e + s)) (4 + m) := by
  rw [pmin_sh (y := v) _ (sub4 ..) (hv.trans (sub3 ..)), Int.add_assoc, min_up, hu, pmin_sh _ rfl (Int.add_assoc ..), Int.min_assoc, Int.min_comm (4 + m), ← Int.min_assoc]
/-! one sign left over -/
theorem out1 (z : Nat) (mx : Int) (c : Nat) (r : List Nat) (bi : Nat) (d res : Int) : outL [z] mx (c :: r) bi [d] res =
    if mx < (if pmin (pmin ((bi : Int) * 2) d + 2) ((bi : Int) * 2 + subC c z) < 9223372036854775807 then pmin (pmin ((bi : Int) * 2) d + 2) ((bi : Int) * 2 + subC c z) else 9223372036854775807) then mx + 1
    else outL [z] mx r (bi + 1) [pmin (pmin ((bi : Int) * 2) d + 2) ((bi : Int) * 2 + subC c z)] (pmin (pmin ((bi : Int) * 2) d + 2) ((bi : Int) * 2 + subC c z)) := rfl
theorem out1s {z : Nat} {mx : Int} {c : Nat} {r : List Nat} {bi : Nat} {d e res : Int} (hd : d = 2 * ((bi : Int) - 1) + e) (h0 : 0 ≤ e) (h4 : e ≤ 4) (hb : bi ≤ 6) :
    ∃ t : Int, t = 2 * (bi : Int) + min e (subC c z) ∧ outL [z] mx (c :: r) bi [d] res = if mx < t then mx + 1 else outL [z] mx r (bi + 1) [t] t := by
  have ht := e1_eq hd (subC_bd c z)
  refine ⟨_, rfl, ?_⟩
  have hm : 2 * (bi : Int) + min e (subC c z) < 9223372036854775807 := big_ok hb (Int.le_trans (Int.min_le_left ..) h4)
  rw [out1, ht, if_pos hm]
noncomputable def eF (z : Nat) : Int → List Nat → Int
  | e, [] => e
  | e, c :: r => eF z (min e (subC c z)) r
theorem min_f (a b : Int) : ∃ m : Int, min a b = m ∧ m ≤ a ∧ m ≤ b ∧ (m = a ∨ m = b) := ⟨_, rfl, by omega, by omega, by omega⟩
theorem stepE {e s : Int} (h0 : 0 ≤ e) (hs : 0 ≤ s ∧ s ≤ 2) : ∃ a : Int, min e s = a ∧ 0 ≤ a ∧ a ≤ e ∧ a ≤ 2 := ⟨_, rfl, by omega, by omega, by omega⟩
theorem eF_bd (z : Nat) : ∀ (l : List Nat) (e : Int), 0 ≤ e → 0 ≤ eF z e l ∧ eF z e l ≤ e
  | [], e, h => ⟨h, Int.le_refl _⟩
  | c :: r, e, h => by
    obtain ⟨a, ea, a0, a1, _⟩ := stepE h (subC_bd c z)
    have := eF_bd z r a a0
    show 0 ≤ eF z (min e (subC c z)) r ∧ eF z (min e (subC c z)) r ≤ e
    rw [ea]
    exact ⟨this.1, Int.le_trans this.2 a1⟩
theorem one14 (z : Nat) : ∀ (y : List Nat) (bi : Nat) (d e res : Int), y ≠ [] → d = 2 * ((bi : Int) - 1) + e → 0 ≤ e → e ≤ 4 → bi + y.length ≤ 6 → outL [z] 14 y bi [d] res = 2 * ((bi : Int) + y.length - 1) + eF z e y
  | [], _, _, _, _, h, _, _, _, _ => absurd rfl h
  | c :: r, bi, d, e, res, _, hd, h0, h4, hb => by
    rw [List.length_cons] at hb
    obtain ⟨t, ht, ho⟩ := out1s (z := z) (mx := 14) (c := c) (r := r) (res := res) hd h0 h4 (by omega)
    obtain ⟨a, ea, a0, a1, a2⟩ := stepE h0 (subC_bd c z)
    rw [ea] at ht
    rw [ho, if_neg (by omega)]
    show _ = 2 * ((bi : Int) + ((r.length + 1 : Nat) : Int) - 1) + eF z (min e (subC c z)) r
    rw [ea]
    clear ho ea hd
    by_cases hr : r = []
    · subst hr
      show t = _
      unfold eF
      simp only [List.length_nil]
      omega
    · rw [one14 z r (bi + 1) t a t hr (by omega) a0 (by omega) (by omega)]
      omega
theorem one10 (z : Nat) : ∀ (y : List Nat) (bi : Nat) (d e res : Int), y ≠ [] → d = 2 * ((bi : Int) - 1) + e → 0 ≤ e → e ≤ 4 → bi + y.length = 6 → 10 ≤ outL [z] 10 y bi [d] res ∧ (outL [z] 10 y bi [d] res = 10 ↔ eF z e y = 0)
  | [], _, _, _, _, h, _, _, _, _ => absurd rfl h
  | c :: r, bi, d, e, res, _, hd, h0, h4, hb => by
    rw [List.length_cons] at hb
    obtain ⟨t, ht, ho⟩ := out1s (z := z) (mx := 10) (c := c) (r := r) (res := res) hd h0 h4 (by omega)
    obtain ⟨a, ea, a0, a1, a2⟩ := stepE h0 (subC_bd c z)
    rw [ea] at ht
    rw [ho]
    show _ ∧ (_ ↔ eF z (min e (subC c z)) r = 0)
    rw [ea]
    clear ho ea hd
    by_cases hr : r = []
    · subst hr
      simp only [List.length_nil] at hb
      unfold eF
      by_cases q : 10 < t
      · rw [if_pos q]
        refine ⟨by decide, fun h => absurd h (by decide), fun h => ?_⟩
        omega
      · rw [if_neg q]
        show 10 ≤ t ∧ (t = 10 ↔ _)
        omega
    · have hl : 0 < r.length := List.length_pos_iff.mpr hr
      rw [if_neg (by omega)]
      exact one10 z r (bi + 1) t a t hr (by omega) a0 (by omega) (by omega)
/-! both signs left over -/
theorem out2 (p q : Nat) (mx : Int) (c : Nat) (y : List Nat) (bi : Nat) (u v res r1 r2 : Int) (h1 : pmin (pmin ((bi : Int) * 2) u + 2) ((bi : Int) * 2 + subC c p) = r1) (h2 : pmin (pmin r1 v + 2) (u + subC c q) = r2) : outL [p, q] mx (c :: y) bi [u, v] res =
     if mx < (if r2 < (if r1 < 9223372036854775807 then r1 else 9223372036854775807) then r2 else (if r1 < 9223372036854775807 then r1 else 9223372036854775807)) then mx + 1 else outL [p, q] mx y (bi + 1) [r1, r2] r2 := by
  subst h1 h2
  rfl
theorem out2s {p q : Nat} {mx : Int} {c : Nat} {y : List Nat} {bi : Nat} {u v e f res : Int} (hu : u = 2 * ((bi : Int) - 1) + e) (hv : v = 2 * ((bi : Int) - 2) + f) (h4 : e ≤ 4) (hb : bi ≤ 6) :
    ∃ t1 t2 : Int, t1 = 2 * (bi : Int) + min e (subC c p) ∧ t2 = 2 * ((bi : Int) - 1) + min (min f (e + subC c q)) (4 + min e (subC c p)) ∧
      outL [p, q] mx (c :: y) bi [u, v] res = if mx < min t1 t2 then mx + 1 else outL [p, q] mx y (bi + 1) [t1, t2] t2 := by
  refine ⟨_, _, rfl, rfl, ?_⟩
  rw [out2 p q mx c y bi u v res _ _ (e1_eq hu (subC_bd c p)) (e2_eq hu hv)]
  have hm : 2 * (bi : Int) + min e (subC c p) < 9223372036854775807 := big_ok hb (Int.le_trans (Int.min_le_left ..) h4)
  generalize 2 * (bi : Int) + min e (subC c p) = t1 at hm
  generalize 2 * ((bi : Int) - 1) + min (min f (e + subC c q)) (4 + min e (subC c p)) = t2
  rw [if_pos hm]
  have : (if t2 < t1 then t2 else t1) = min t1 t2 := pmin_min t1 t2
  rw [this]
noncomputable def ef2 (p q : Nat) : Int → Int → List Nat → Int
  | _, f, [] => f
  | e, f, c :: r => ef2 p q (min e (subC c p)) (min (min f (e + subC c q)) (4 + min e (subC c p))) r
theorem stepF {e f s s' : Int} (h0 : 0 ≤ e) (g0 : 0 ≤ f) (hs : 0 ≤ s ∧ s ≤ 2) (hs' : 0 ≤ s' ∧ s' ≤ 2) :
    ∃ a b : Int, min e s = a ∧ min (min f (e + s')) (4 + a) = b ∧ 0 ≤ a ∧ a ≤ e ∧ a ≤ 2 ∧ 0 ≤ b ∧ b ≤ f ∧ b ≤ e + 2 ∧ (1 ≤ e → 1 ≤ f → 1 ≤ b) := by
  obtain ⟨a, ea, a0, a1, a2⟩ := stepE h0 hs
  obtain ⟨x, ex, x1, x2, x3⟩ := min_f f (e + s')
  obtain ⟨b, eb, b1, b2, b3⟩ := min_f x (4 + a)
  refine ⟨a, b, ea, by rw [ex]; exact eb, a0, a1, a2, ?_, by omega, by omega, ?_⟩
  · rcases b3 with rfl | rfl
    · rcases x3 with rfl | rfl <;> omega
    · omega
  · intro h1 h2
    rcases b3 with rfl | rfl
    · rcases x3 with rfl | rfl <;> omega
    · omega
theorem two14 (p q : Nat) : ∀ (y : List Nat) (bi : Nat) (u v e f res : Int), y ≠ [] → u = 2 * ((bi : Int) - 1) + e → v = 2 * ((bi : Int) - 2) + f → 0 ≤ e → e ≤ 4 → 0 ≤ f → f ≤ 8 → (1 ≤ bi → e ≤ 2) → bi + y.length ≤ 7 →
    outL [p, q] 14 y bi [u, v] res = 2 * ((bi : Int) + y.length - 2) + ef2 p q e f y
  | [], _, _, _, _, _, _, h, _, _, _, _, _, _, _, _ => absurd rfl h
  | c :: r, bi, u, v, e, f, res, _, hu, hv, h0, h4, g0, g8, h2, hb => by
    rw [List.length_cons] at hb
    obtain ⟨t1, t2, ht1, ht2, ho⟩ := out2s (p := p) (q := q) (mx := 14) (c := c) (y := r) (res := res) hu hv h4 (by omega)
    obtain ⟨a, b, ea, eb, a0, a1, a2, b0, b1, b2, _⟩ := stepF h0 g0 (subC_bd c p) (subC_bd c q)
    obtain ⟨m, em, m1, m2, _⟩ := min_f t1 t2
    rw [ea] at ht1 ht2
    rw [eb] at ht2
    rw [ho, em]
    clear ho em hu hv
    rw [if_neg (by omega)]
    show _ = 2 * ((bi : Int) + ((r.length + 1 : Nat) : Int) - 2) + ef2 p q (min e (subC c p)) (min (min f (e + subC c q)) (4 + min e (subC c p))) r
    rw [ea, eb]
    clear ea eb
    by_cases hr : r = []
    · subst hr
      show t2 = _
      unfold ef2
      simp only [List.length_nil]
      omega
    · rw [two14 p q r (bi + 1) t1 t2 a b t2 hr (by omega) (by omega) a0 (by omega) b0 (by omega) (fun _ => a2) (by omega)]
      omega
theorem two10 (p q : Nat) : ∀ (y : List Nat) (bi : Nat) (u v e f res : Int), y ≠ [] → u = 2 * ((bi : Int) - 1) + e → v = 2 * ((bi : Int) - 2) + f → 0 ≤ e → e ≤ 4 → 0 ≤ f → f ≤ 8 → (1 ≤ bi → e ≤ 2) → bi + y.length = 7 →
    10 ≤ outL [p, q] 10 y bi [u, v] res ∧ (outL [p, q] 10 y bi [u, v] res = 10 ↔ ef2 p q e f y = 0)
  | [], _, _, _, _, _, _, h, _, _, _, _, _, _, _, _ => absurd rfl h
  | c :: r, bi, u, v, e, f, res, _, hu, hv, h0, h4, g0, g8, h2, hb => by
    rw [List.length_cons] at hb
    obtain ⟨t1, t2, ht1, ht2, ho⟩ := out2s (p := p) (q := q) (mx := 10) (c := c) (y := r) (res := res) hu hv h4 (by omega)
    obtain ⟨a, b, ea, eb, a0, a1, a2, b0, b1, b2, _⟩ := stepF h0 g0 (subC_bd c p) (subC_bd c q)
    obtain ⟨m, em, m1, m2, m3⟩ := min_f t1 t2
    rw [ea] at ht1 ht2
    rw [eb] at ht2
    rw [ho, em]
    clear ho em hu hv
    show _ ∧ (_ ↔ ef2 p q (min e (subC c p)) (min (min f (e + subC c q)) (4 + min e (subC c p))) r = 0)
    rw [ea, eb]
    clear ea eb
    by_cases hr : r = []
    · subst hr
      simp only [List.length_nil] at hb
      unfold ef2
      by_cases k : 10 < m
      · rw [if_pos k]
        refine ⟨by decide, fun h => absurd h (by decide), fun h => ?_⟩
        omega
      · rw [if_neg k]
        show 10 ≤ t2 ∧ (t2 = 10 ↔ _)
        omega
    · have hl : 0 < r.length := List.length_pos_iff.mpr hr
      by_cases k : 10 < m
      · rw [if_pos k]
        have hb5 : bi = 5 := by omega
        obtain ⟨c2, rfl⟩ := List.length_eq_one_iff.mp (show r.length = 1 by omega)
        obtain ⟨a', b', ea', eb', _, _, _, _, _, _, b3'⟩ := stepF a0 b0 (subC_bd c2 p) (subC_bd c2 q)
        have hb' : 1 ≤ b' := b3' (by omega) (by omega)
        refine ⟨by decide, fun h => absurd h (by decide), fun h => ?_⟩
        unfold ef2 ef2 at h
        rw [ea', eb'] at h
        omega
      · rw [if_neg k]
        exact two10 p q r (bi + 1) t1 t2 a b t2 hr (by omega) (by omega) a0 (by omega) b0 (by omega) (fun _ => a2) (by omega)
/-! the least price, turn by turn -/
noncomputable def lsF (p q : Nat) : Int → Int → List Nat → Int
  | _, g, [] => g
  | a, g, c :: r => lsF p q (min a (subC c p)) (min g (a + subC c q)) r
theorem leastT_fold (p q : Nat) (l : List Nat) : leastT p q l = (eF p 4 l, lsF p q 4 4 l) := by
  have key : ∀ (l : List Nat) (a g : Int), l.foldl (fun (a : Int × Int) c => (pmin a.1 (subC c p), pmin a.2 (a.1 + subC c q))) (a, g) = (eF p a l, lsF p q a g l) := by
    intro l
    induction l with
    | nil => intro a g; rfl
    | cons c r ih =>
      intro a g
      rw [List.foldl_cons]
      show List.foldl _ (pmin a (subC c p), pmin g (a + subC c q)) r = _
      rw [ih, pmin_min, pmin_min]
      rfl
  unfold leastT
  exact key l 4 4
theorem min4 {f x a : Int} (h : 0 ≤ a) : min (min 4 f) x = min 4 (min (min f x) (4 + a)) := by
  have h4 : min 4 (min f x) ≤ 4 + a := Int.le_trans (Int.min_le_left ..) (by omega)
  rw [← Int.min_assoc 4 (min f x) (4 + a), Int.min_eq_left h4, Int.min_assoc]
theorem ls_ef (p q : Nat) : ∀ (l : List Nat) (e f g : Int), 0 ≤ e → g = min 4 f → lsF p q e g l = min 4 (ef2 p q e f l)
  | [], _, _, _, _, h => h
  | c :: r, e, f, g, h0, h => by
    obtain ⟨a, ea, a0, _, _⟩ := stepE h0 (subC_bd c p)
    show lsF p q (min e (subC c p)) (min g (e + subC c q)) r = min 4 (ef2 p q (min e (subC c p)) (min (min f (e + subC c q)) (4 + min e (subC c p))) r)
    rw [ea]
    exact ls_ef p q r _ _ _ a0 (by rw [h]; exact min4 a0)
theorem ef2_le (p q : Nat) : ∀ (l : List Nat) (e f : Int), ef2 p q e f l ≤ f
  | [], _, _ => Int.le_refl _
  | _ :: r, _, _ => Int.le_trans (ef2_le p q r _ _) (Int.le_trans (Int.min_le_left ..) (Int.min_le_left ..))
theorem ef2_le4 (p q c d : Nat) (r : List Nat) (e f : Int) (h0 : 0 ≤ e) (g0 : 0 ≤ f) : ef2 p q e f (c :: d :: r) ≤ 4 := by
  obtain ⟨a, b, ea, eb, a0, _, a2, b0, _, _, _⟩ := stepF h0 g0 (subC_bd c p) (subC_bd c q)
  obtain ⟨a', b', ea', eb', _, _, _, _, _, b2', _⟩ := stepF a0 b0 (subC_bd d p) (subC_bd d q)
  unfold ef2 ef2
  rw [ea, eb, ea', eb']
  have := ef2_le p q r a' b'
  omega
theorem ls_two {p q : Nat} {y : List Nat} (h : y.length = 7) : (leastT p q y).2 = ef2 p q 4 8 y := by
  rw [leastT_fold]
  show lsF p q 4 4 y = _
  rw [ls_ef p q y 4 8 4 (by decide) (by decide)]
  match y, h with
  | c :: d :: r, _ =>
    have := ef2_le4 p q c d r 4 8 (by decide) (by decide)
    omega
end Mine
end
section
open PySem PySem.W PyProof.Rows
namespace Mine
/-! both ends stripped; the shorter first -/
noncomputable def coreD (x y : List Nat) (mx : Int) : Int := if x = [] then 2 * (y.length : Int) else dpL x y mx
noncomputable def coreS (x y : List Nat) (mx : Int) : Int := coreD (x.take (x.length - lcpL x.reverse y.reverse)) (y.take (y.length - lcpL x.reverse y.reverse)) mx
noncomputable def coreL (x y : List Nat) (mx : Int) : Int := coreS (x.drop (lcpL x y)) (y.drop (lcpL x y)) mx
theorem lcp_nil (b : List Nat) : lcpL [] b = 0 := by cases b <;> rfl
theorem lcp_cons (x y : Nat) (a b : List Nat) : lcpL (x :: a) (y :: b) = if x = y then lcpL a b + 1 else 0 := rfl
theorem lcp_comm : ∀ (a b : List Nat), lcpL a b = lcpL b a
  | [], b => by rw [lcp_nil]; cases b <;> rfl
  | x :: a, [] => by rw [lcp_nil]; rfl
  | x :: a, y :: b => by
    rw [lcp_cons, lcp_cons, lcp_comm a b]
    by_cases h : x = y
    · rw [if_pos h, if_pos h.symm]
    · rw [if_neg h, if_neg (Ne.symm h)]
theorem levT_long {x y : List Nat} {mx : Int} (h : x.length < y.length) : levT y x mx = coreD x y mx := by
  unfold coreD
  by_cases hx : x = []
  · rw [if_pos hx]
    unfold levT
    rw [if_pos (.inr hx), hx]
    simp
  · rw [if_neg hx]
    have hx' : x.length ≠ 0 := fun q => hx (List.eq_nil_of_length_eq_zero q)
    exact levT_swap' hx' h
where
  levT_swap' {x y : List Nat} {mx : Int} (hb : x.length ≠ 0) (h : x.length < y.length) : levT y x mx = dpL x y mx := by
    unfold levT
    rw [if_neg (fun q => q.elim (fun q => by rw [q] at h; simp at h) (fun q => hb (by rw [q]; rfl))), if_pos h]
theorem levT_short {x y : List Nat} {mx : Int} (h : x.length < y.length) : levT x y mx = coreD x y mx := by
  unfold coreD levT
  by_cases hx : x = []
  · rw [if_pos hx, if_pos (.inl hx), hx]
    simp
  · rw [if_neg hx, if_neg (fun q => q.elim hx (fun q => by rw [q] at h; simp at h)), if_neg (by omega)]
theorem len_cut {l : List Nat} {j : Nat} : (l.take (l.length - j)).length = l.length - j := by rw [List.length_take, Nat.min_eq_left (Nat.sub_le ..)]
theorem levS_long {x y : List Nat} {mx : Int} (h : x.length < y.length) : levS y x mx = coreS x y mx := by
  have hj := lcp_le x.reverse y.reverse
  rw [List.length_reverse, List.length_reverse] at hj
  show levT (y.take (y.length - lcpL y.reverse x.reverse)) (x.take (x.length - lcpL y.reverse x.reverse)) mx = _
  rw [lcp_comm y.reverse]
  exact levT_long (by rw [len_cut, len_cut]; exact Nat.sub_lt_sub_right hj.1 h)
theorem levS_short {x y : List Nat} {mx : Int} (h : x.length < y.length) : levS x y mx = coreS x y mx := by
  have hj := lcp_le x.reverse y.reverse
  rw [List.length_reverse, List.length_reverse] at hj
  show levT (x.take (x.length - lcpL x.reverse y.reverse)) (y.take (y.length - lcpL x.reverse y.reverse)) mx = _
  exact levT_short (by rw [len_cut, len_cut]; exact Nat.sub_lt_sub_right hj.1 h)
theorem levL_long {x y : List Nat} {mx : Int} (h : x.length < y.length) : levL y x mx = coreL x y mx := by
  have hj := lcp_le x y
  unfold levL coreL
  rw [if_neg (fun q => by rw [q] at h; omega), lcp_comm y x]
  exact levS_long (by rw [List.length_drop, List.length_drop]; omega)
theorem levL_short {x y : List Nat} {mx : Int} (h : x.length < y.length) : levL x y mx = coreL x y mx := by
  have hj := lcp_le x y
  unfold levL coreL
  rw [if_neg (fun q => by rw [q] at h; omega)]
  exact levS_short (by rw [List.length_drop, List.length_drop]; omega)
/-! the least price where an end is stripped -/
theorem lsF_zero (p q : Nat) : ∀ (l : List Nat) (g : Int), lsF p q 0 g l = eF q g l
  | [], _ => rfl
  | c :: r, g => by
    have hs := subC_bd c p
    show lsF p q (min 0 (subC c p)) (min g (0 + subC c q)) r = eF q (min g (subC c q)) r
    rw [show min 0 (subC c p) = 0 by omega, Int.zero_add]
    exact lsF_zero p q r _
theorem eF_snoc (z c : Nat) : ∀ (l : List Nat) (e : Int), eF z e (l ++ [c]) = min (eF z e l) (subC c z)
  | [], _ => rfl
  | _ :: r, _ => eF_snoc z c r _
theorem eF_zero (z : Nat) (l : List Nat) : eF z 0 l = 0 := by
  have := eF_bd z l 0 (Int.le_refl _)
  omega
theorem subC_self (a : Nat) : subC a a = 0 := (subC_zero a a).mpr rfl
theorem lsF_ge (p q : Nat) : ∀ (l : List Nat) (a g : Int), 0 ≤ a → a ≤ g → eF p a l ≤ lsF p q a g l
  | [], _, _, _, h => h
  | c :: r, a, g, h0, h => by
    have hs := subC_bd c p
    have hs2 := subC_bd c q
    exact lsF_ge p q r (min a (subC c p)) (min g (a + subC c q)) (Int.le_min.mpr ⟨h0, hs.1⟩) (Int.le_min.mpr ⟨Int.le_trans (Int.min_le_left ..) h, Int.le_trans (Int.min_le_left ..) (Int.le_add_of_nonneg_right hs2.1)⟩)
theorem least_p (p q : Nat) (y : List Nat) : (leastT p q (p :: y)).2 = eF q 4 y := by
  rw [leastT_fold]
  have hs := subC_bd p q
  show lsF p q (min 4 (subC p p)) (min 4 (4 + subC p q)) y = _
  rw [subC_self, show min (4 : Int) 0 = 0 by decide, show min 4 (4 + subC p q) = 4 by omega]
  exact lsF_zero p q y 4
theorem least_q (p q : Nat) (y : List Nat) : (leastT p q (y ++ [q])).2 = eF p 4 y := by
  rw [leastT_snoc]
  show pmin (leastT p q y).2 ((leastT p q y).1 + subC q q) = _
  rw [subC_self, pmin_min, leastT_fold]
  have := lsF_ge p q y 4 4 (by decide) (by decide)
  show min (lsF p q 4 4 y) (eF p 4 y + 0) = _
  omega
theorem snoc_of {l : List Nat} {n : Nat} (h : l.length = n + 1) : ∃ r z, l = r ++ [z] ∧ r.length = n := by
  have hne : l ≠ [] := by intro q; rw [q] at h; simp at h
  refine ⟨l.dropLast, l.getLast hne, (List.dropLast_concat_getLast hne).symm, by rw [List.length_dropLast]; omega⟩
theorem core_cases (p q : Nat) (y : List Nat) (h : y.length = 7) :
    (∀ mx, coreL [p, q] y mx = dpL [p, q] y mx) ∨ (∃ z y', y'.length = 6 ∧ (∀ mx, coreL [p, q] y mx = dpL [z] y' mx) ∧ (leastT p q y).2 = eF z 4 y') ∨ ((∀ mx, coreL [p, q] y mx = 10) ∧ (leastT p q y).2 = 0) := by
  obtain ⟨c, y', rfl⟩ : ∃ c y', y = c :: y' := by
    cases y with
    | nil => simp at h
    | cons c y' => exact ⟨c, y', rfl⟩
  have h6 : y'.length = 6 := by simpa using h
  by_cases hc : p = c
  · subst hc
    obtain ⟨d, y2, rfl⟩ : ∃ d y2, y' = d :: y2 := by
      cases y' with
      | nil => simp at h6
      | cons c y' => exact ⟨c, y', rfl⟩
    have h5 : y2.length = 5 := by simpa using h6
    by_cases hd : q = d
    · subst hd
      refine .inr (.inr ⟨fun mx => ?_, ?_⟩)
      · have e : lcpL [p, q] (p :: q :: y2) = 2 := by rw [lcp_cons, if_pos rfl, lcp_cons, if_pos rfl, lcp_nil]
        unfold coreL
        rw [e]
        show coreS [] y2 mx = 10
        unfold coreS
        rw [List.reverse_nil, lcp_nil]
        show coreD [] (y2.take (y2.length - 0)) mx = 10
        unfold coreD
        rw [if_pos rfl, Nat.sub_zero, List.take_length, h5]
        rfl
      · rw [least_p]
        show eF q (min 4 (subC q q)) y2 = 0
        rw [subC_self]
        exact eF_zero q y2
    · have e : lcpL [p, q] (p :: d :: y2) = 1 := by rw [lcp_cons, if_pos rfl, lcp_cons, if_neg hd]
      obtain ⟨y0, z, hz, h0⟩ := snoc_of (l := d :: y2) (n := 5) h6
      have eL : ∀ mx, coreL [p, q] (p :: d :: y2) mx = coreS [q] (y0 ++ [z]) mx := fun mx => by
        unfold coreL
        rw [e]
        show coreS [q] (d :: y2) mx = _
        rw [hz]
      by_cases hzq : q = z
      · subst hzq
        refine .inr (.inr ⟨fun mx => ?_, ?_⟩)
        · rw [eL]
          have ej : lcpL [q].reverse (y0 ++ [q]).reverse = 1 := by
            rw [List.reverse_append]
            show lcpL [q] (q :: y0.reverse) = 1
            rw [lcp_cons, if_pos rfl, lcp_nil]
          unfold coreS
          rw [ej]
          show coreD [] _ mx = 10
          unfold coreD
          rw [if_pos rfl, List.length_take, List.length_append, h0]
          rfl
        · rw [least_p, hz, eF_snoc, subC_self]
          have := eF_bd q y0 4 (by decide)
          omega
      · refine .inr (.inl ⟨q, d :: y2, h6, fun mx => ?_, least_p ..⟩)
        rw [eL]
        have ej : lcpL [q].reverse (y0 ++ [z]).reverse = 0 := by
          rw [List.reverse_append]
          show lcpL [q] (z :: y0.reverse) = 0
          rw [lcp_cons, if_neg hzq]
        unfold coreS
        rw [ej, Nat.sub_zero, Nat.sub_zero, List.take_length, List.take_length, hz]
        rfl
  · have e : lcpL [p, q] (c :: y') = 0 := by rw [lcp_cons, if_neg hc]
    have eL : ∀ mx, coreL [p, q] (c :: y') mx = coreS [p, q] (c :: y') mx := fun mx => by
      unfold coreL
      rw [e]
      rfl
    obtain ⟨y0, z, hz, h0⟩ := snoc_of (l := c :: y') (n := 6) h
    rw [hz] at eL ⊢
    by_cases hzq : q = z
    · subst hzq
      obtain ⟨y1, z1, hz1, h1⟩ := snoc_of (l := y0) (n := 5) h0
      subst hz1
      by_cases hp : p = z1
      · subst hp
        refine .inr (.inr ⟨fun mx => ?_, ?_⟩)
        · rw [eL]
          have ej : lcpL [p, q].reverse ((y1 ++ [p]) ++ [q]).reverse = 2 := by
            rw [List.reverse_append, List.reverse_append]
            show lcpL [q, p] (q :: p :: y1.reverse) = 2
            rw [lcp_cons, if_pos rfl, lcp_cons, if_pos rfl, lcp_nil]
          unfold coreS
          rw [ej]
          show coreD [] _ mx = 10
          unfold coreD
          rw [if_pos rfl, List.length_take, List.length_append, h0]
          rfl
        · rw [least_q, eF_snoc, subC_self]
          have := eF_bd p y1 4 (by decide)
          omega
      · refine .inr (.inl ⟨p, y1 ++ [z1], h0, fun mx => ?_, least_q ..⟩)
        rw [eL]
        have ej : lcpL [p, q].reverse ((y1 ++ [z1]) ++ [q]).reverse = 1 := by
          rw [List.reverse_append, List.reverse_append]
          show lcpL [q, p] (q :: z1 :: y1.reverse) = 1
          rw [lcp_cons, if_pos rfl, lcp_cons, if_neg hp]
        unfold coreS
        rw [ej]
        show coreD [p] _ mx = _
        have et : ((y1 ++ [z1]) ++ [q]).take (((y1 ++ [z1]) ++ [q]).length - 1) = y1 ++ [z1] := by
          rw [List.length_append (as := y1 ++ [z1])]
          show List.take ((y1 ++ [z1]).length + 1 - 1) _ = _
          rw [Nat.add_sub_cancel, List.take_left]
        rw [et]
        rfl
    · refine .inl fun mx => ?_
      rw [eL]
      have ej : lcpL [p, q].reverse (y0 ++ [z]).reverse = 0 := by
        rw [List.reverse_append]
        show lcpL [q, p] (z :: y0.reverse) = 0
        rw [lcp_cons, if_neg hzq]
      unfold coreS
      rw [ej, Nat.sub_zero, Nat.sub_zero, List.take_length, List.take_length]
      rfl
theorem dp1 {z : Nat} {y : List Nat} {mx : Int} (h : y.length = 6) (hm : 10 ≤ mx) : dpL [z] y mx = outL [z] mx y 0 [2] 0 := by
  unfold dpL
  rw [if_neg (by simp only [List.length_cons, List.length_nil, h]; omega)]
  rfl
theorem dp2 {p q : Nat} {y : List Nat} {mx : Int} (h : y.length = 7) (hm : 10 ≤ mx) : dpL [p, q] y mx = outL [p, q] mx y 0 [2, 4] 0 := by
  unfold dpL
  rw [if_neg (by simp only [List.length_cons, List.length_nil, h]; omega)]
  rfl
theorem core14 (p q : Nat) (y : List Nat) (h : y.length = 7) : coreL [p, q] y 14 = 10 + (leastT p q y).2 := by
  rcases core_cases p q y h with k | ⟨z, y', hl, k, k2⟩ | ⟨k, k2⟩
  · rw [k, dp2 h (by decide), ls_two h, two14 p q y 0 2 4 4 8 0 (by intro q; rw [q] at h; simp at h) (by decide) (by decide) (by decide) (by decide) (by decide) (by decide) (by omega) (by omega), h]
    omega
  · rw [k, k2, dp1 hl (by decide), one14 z y' 0 2 4 0 (by intro q; rw [q] at hl; simp at hl) (by decide) (by decide) (by decide) (by omega), hl]
    omega
  · rw [k, k2]; rfl
theorem core10 (p q : Nat) (y : List Nat) (h : y.length = 7) : 10 ≤ coreL [p, q] y 10 ∧ (coreL [p, q] y 10 = 10 ↔ (leastT p q y).2 = 0) := by
  rcases core_cases p q y h with k | ⟨z, y', hl, k, k2⟩ | ⟨k, k2⟩
  · rw [k, dp2 h (by decide), ls_two h]
    exact two10 p q y 0 2 4 4 8 0 (by intro q; rw [q] at h; simp at h) (by decide) (by decide) (by decide) (by decide) (by decide) (by decide) (by omega) (by omega)
  · rw [k, k2, dp1 hl (by decide)]
    exact one10 z y' 0 2 4 0 (by intro q; rw [q] at hl; simp at hl) (by decide) (by decide) (by decide) (by omega)
  · rw [k, k2]; simp
/-! p somewhere ahead of q -/
noncomputable def Has (p q : Nat) (l : List Nat) : Prop := ∃ u v, l = u ++ v ∧ p ∈ u ∧ q ∈ v
theorem has_snoc (p q c : Nat) (l : List Nat) : Has p q (l ++ [c]) ↔ Has p q l ∨ (p ∈ l ∧ c = q) := by
  constructor
  · rintro ⟨u, v, h, hp, hq⟩
    have hv : v ≠ [] := by intro k; rw [k] at hq; simp at hq
    obtain ⟨v', z, hz⟩ : ∃ v' z, v = v' ++ [z] := ⟨v.dropLast, v.getLast hv, (List.dropLast_concat_getLast hv).symm⟩
    subst hz
    rw [← List.append_assoc] at h
    obtain ⟨h1, h2⟩ := List.append_inj' h rfl
    obtain rfl : c = z := by simpa using h2
    rcases List.mem_append.mp hq with k | k
    · exact .inl ⟨u, v', h1, hp, k⟩
    · exact .inr ⟨by rw [h1]; exact List.mem_append_left _ hp, (List.mem_singleton.mp k).symm⟩
  · rintro (⟨u, v, rfl, hp, hq⟩ | ⟨hp, rfl⟩)
    · exact ⟨u, v ++ [c], by rw [List.append_assoc], hp, List.mem_append_left _ hq⟩
    · exact ⟨l, [c], rfl, hp, List.mem_singleton.mpr rfl⟩
theorem min0 {x y : Int} (hx : 0 ≤ x) (hy : 0 ≤ y) : 0 ≤ min x y ∧ (min x y = 0 ↔ x = 0 ∨ y = 0) := by
  rcases Int.le_total x y with h | h
  · rw [Int.min_eq_left h]
    exact ⟨hx, .inl, fun e => e.elim id fun e => Int.le_antisymm (e ▸ h) hx⟩
  · rw [Int.min_eq_right h]
    exact ⟨hy, .inr, fun e => e.elim (fun e => Int.le_antisymm (e ▸ h) hy) id⟩
theorem add0 {x y : Int} (hx : 0 ≤ x) (hy : 0 ≤ y) : x + y = 0 ↔ x = 0 ∧ y = 0 := by omega
theorem least_has (p q : Nat) (l : List Nat) : (0 ≤ (leastT p q l).1 ∧ ((leastT p q l).1 = 0 ↔ p ∈ l)) ∧ 0 ≤ (leastT p q l).2 ∧ ((leastT p q l).2 = 0 ↔ Has p q l) := by
  induction l using snoc_ind with
  | h0 =>
    rw [leastT_nil]
    refine ⟨⟨by decide, by simp⟩, by decide, ⟨fun h => absurd h (by decide), ?_⟩⟩
    rintro ⟨u, v, h, hp, _⟩
    have : u = [] := (List.append_eq_nil_iff.mp h.symm).1
    rw [this] at hp
    simp at hp
  | h1 l c ih =>
    obtain ⟨⟨a0, a1⟩, b0, b1⟩ := ih
    rw [leastT_snoc, has_snoc, List.mem_append, List.mem_singleton, ← a1, ← b1]
    have s1 := subC_bd c p
    have s2 := subC_bd c q
    have z1 := subC_zero c p
    have z2 := subC_zero c q
    show (0 ≤ pmin (leastT p q l).1 (subC c p) ∧ (pmin (leastT p q l).1 (subC c p) = 0 ↔ _)) ∧ 0 ≤ pmin (leastT p q l).2 ((leastT p q l).1 + subC c q) ∧ (pmin (leastT p q l).2 ((leastT p q l).1 + subC c q) = 0 ↔ _)
    rw [pmin_min, pmin_min, ← z2, show (p = c) = (c = p) from propext eq_comm, ← z1]
    have h2 := min0 b0 (Int.add_nonneg a0 s2.1)
    exact ⟨min0 a0 s1.1, h2.1, h2.2.trans (or_congr Iff.rfl (add0 a0 s2.1))⟩
/-! the turning keeps it -/
noncomputable def phi (p q : Nat) (a : Nat) : Bool := decide (a = p) || decide (a = q)
theorem cutL_phi (p q : Nat) (P : Nat → Bool) (hpq : P p = P q) : ∀ (l acc : List Nat), (∀ y ∈ acc, P y = false) → (l = [] → acc = []) → EndsP P l → (cutL P acc l).filter (phi p q) = (acc ++ l).filter (phi p q)
  | [], acc, _, h, _ => by rw [h rfl]; rfl
  | x :: r, acc, ha, _, h => by
    by_cases hx : P x = true
    · have hr : EndsP P r := by
        rcases endsP_tail h with ⟨rfl, _⟩ | ⟨_, h2⟩
        · exact .inl rfl
        · exact h2
      have ih := cutL_phi p q P hpq r [] (by simp) (fun _ => rfl) hr
      rw [List.nil_append] at ih
      rw [cutL_pos hx]
      by_cases hf : phi p q x = true
      · have hacc : acc.filter (phi p q) = [] := by
          rw [List.filter_eq_nil_iff]
          intro y hy hfy
          have h1 := ha y hy
          unfold phi at hf hfy
          simp only [Bool.or_eq_true, decide_eq_true_eq] at hf hfy
          rcases hf with rfl | rfl <;> rcases hfy with rfl | rfl <;> simp_all
        rw [List.filter_cons_of_pos hf, List.filter_append, List.filter_append, List.filter_cons_of_pos hf, hacc, ih]
        rfl
      · rw [List.filter_cons_of_neg hf, List.filter_append, List.filter_append, List.filter_cons_of_neg hf, ih]
    · have hx' : P x = false := Bool.eq_false_iff.mpr hx
      rcases endsP_tail h with ⟨_, hx2⟩ | ⟨hr, hr2⟩
      · exact absurd hx2 hx
      · have ih := cutL_phi p q P hpq r (acc ++ [x]) (fun y hy => by
          rcases List.mem_append.mp hy with k | k
          · exact ha y k
          · rw [List.mem_singleton.mp k]; exact hx') (fun k => absurd k hr) hr2
        rw [List.append_assoc] at ih
        rw [cutL_neg hx]
        exact ih
theorem has_filter (p q : Nat) (l : List Nat) : Has p q l ↔ Has p q (l.filter (phi p q)) := by
  have fp : phi p q p = true := by simp [phi]
  have fq : phi p q q = true := by simp [phi]
  constructor
  · rintro ⟨u, v, rfl, hp, hq⟩
    exact ⟨_, _, List.filter_append .., List.mem_filter.mpr ⟨hp, fp⟩, List.mem_filter.mpr ⟨hq, fq⟩⟩
  · rintro ⟨u, v, h, hp, hq⟩
    obtain ⟨l1, l2, rfl, rfl, rfl⟩ := List.filter_eq_append_iff.mp h
    exact ⟨l1, l2, rfl, (List.mem_filter.mp hp).1, (List.mem_filter.mp hq).1⟩
theorem has_mem {p q : Nat} {l : List Nat} (h : Has p q l) : p ∈ l := by
  obtain ⟨u, v, rfl, hp, _⟩ := h
  exact List.mem_append_left _ hp
theorem has_th (p q : Nat) (w : List Nat) (hw : ∀ c ∈ w, c ≤ q ∨ p ≤ c) (hqp : q < p) : Has p q (thL w) ↔ Has p q w := by
  induction w using snoc_ind with
  | h0 => exact .rfl
  | h1 l c ih =>
    have ih := ih fun x hx => hw x (List.mem_append_left _ hx)
    have hc := hw c (List.mem_append_right _ (List.mem_singleton.mpr rfl))
    have hm : p ∈ turnL (thL l) c ↔ p ∈ l := ((turnL_perm (thL l) c).trans (thL_perm l)).mem_iff
    rw [thL_snoc, has_snoc, has_snoc, hm]
    by_cases k : c = q
    · have h1 : Has p q (turnL (thL l) c) → p ∈ l := fun h => hm.mp (has_mem h)
      have h2 : Has p q l → p ∈ l := has_mem
      constructor
      · rintro (h | h)
        · exact .inr ⟨h1 h, k⟩
        · exact .inr h
      · rintro (h | h)
        · exact .inr ⟨h2 h, k⟩
        · exact .inr h
    · have e : Has p q (turnL (thL l) c) ↔ Has p q l := by
        rw [has_filter]
        have hpq : turnP (thL l) c p = turnP (thL l) c q := by
          have : (p ≤ c) = (q ≤ c) := propext (by omega)
          unfold turnP
          simp only [this]
        have := cutL_phi p q (turnP (thL l) c) hpq (thL l) [] (by simp) (fun _ => rfl) (turnP_ends _ c)
        rw [List.nil_append] at this
        have e2 : (turnL (thL l) c).filter (phi p q) = (thL l).filter (phi p q) := this
        rw [e2, ← has_filter, ih]
      rw [e]
theorem there_gap {w : List Nat} (hS : ∀ c ∈ w, Lt c) {k p q : Nat} (hp : (thereL w)[k + 1]? = some p) (hq : (thereL w)[k]? = some q) : q < p ∧ ∀ c ∈ w, c ≤ q ∨ p ≤ c := by
  have hs : (thereL w).Pairwise (· < ·) := List.Pairwise.filter _ (by decide)
  obtain ⟨h1, e1⟩ := List.getElem?_eq_some_iff.mp hp
  obtain ⟨h0, e0⟩ := List.getElem?_eq_some_iff.mp hq
  have key := List.pairwise_iff_getElem.mp hs
  refine ⟨by rw [← e0, ← e1]; exact key k (k + 1) h0 h1 (by omega), fun c hc => ?_⟩
  have hm : c ∈ thereL w := by
    unfold thereL
    rw [List.mem_filter]
    refine ⟨?_, by simpa using hc⟩
    rcases hS c hc with rfl | rfl | rfl | rfl <;> simp
  obtain ⟨i, hi, ei⟩ := List.getElem_of_mem hm
  by_cases h : i ≤ k
  · refine .inl ?_
    rw [← ei, ← e0]
    rcases Nat.lt_or_eq_of_le h with h | h
    · exact Nat.le_of_lt (key i k hi h0 h)
    · subst h; exact Nat.le_refl _
  · refine .inr ?_
    rw [← ei, ← e1]
    rcases Nat.lt_or_eq_of_le (show k + 1 ≤ i by omega) with h | h
    · exact Nat.le_of_lt (key (k + 1) i h1 hi h)
    · subst h; exact Nat.le_refl _
theorem kept_law {word there : Str} (h7 : word.length = 7) (hS : Signs word) (ht : cl there = thL (cl word)) :
    ∀ k p q, (thereL (cl word))[k + 1]? = some p → (thereL (cl word))[k]? = some q → levL (cl word) (cl ⟨#[p, q]⟩) 14 = 10 + (leastT p q (cl word)).2 ∧ 10 ≤ levL (cl ⟨#[p, q]⟩) (cl there) 10 ∧ (levL (cl ⟨#[p, q]⟩) (cl there) 10 = 10 ↔ 10 + (leastT p q (cl word)).2 = 10) := by
  intro k p q hp hq
  have hl : (cl word).length = 7 := by rw [cl_len, h7]
  have hl2 : (cl there).length = 7 := by rw [ht, thL_len, hl]
  obtain ⟨hqp, hgap⟩ := there_gap hS hp hq
  have e : cl (⟨#[p, q]⟩ : Str) = [p, q] := rfl
  rw [e]
  refine ⟨?_, ?_⟩
  · rw [levL_long (by rw [hl]; show 2 < 7; decide)]
    exact core14 p q _ hl
  · rw [levL_short (by rw [hl2]; show 2 < 7; decide)]
    obtain ⟨h1, h2⟩ := core10 p q _ hl2
    refine ⟨h1, ?_⟩
    rw [h2, (least_has p q (cl there)).2.2, ht, has_th p q (cl word) hgap hqp, ← (least_has p q (cl word)).2.2]
    omega
end Mine
end
section
open PySem PySem.W PyProof.Rows PySem.Calls PySem.Spec PyProof.V PyProof.Rows.LCg
set_option maxHeartbeats 2000000
namespace Mine
/-- the inner clause's loop, from the place where its iterator is made -/
noncomputable def InAt (prog : Program) (w : World) (A : Around) (h₀ : Heap) (L : Addr) (m : Str → Option Value) (cenv : Env) (t2 elt : PySem.Expr) (if2 : List PySem.Expr) (C D : Addr) (newsO : List (Addr × Obj)) (JO : List Value → Prop) (sO : Shared) (it' : Value) (s₅ : Shared) : Prop :=
  ∃ (wr fp : List Addr) (n : Nat) (Kp : (Str → Option Value) → Prop) (Bd : Nat → (Str → Option Value) → Prop) (St : Nat → Heap → Prop) (news : List (Addr × Obj)) (ys₀ : List Value) (m₀ : Str → Option Value) (J : Nat → List Value → Prop) (hh : Heap) (tkk : Nat),
    s₅ = { sO with heap := hh, toks := tkk } ∧ CWalk prog w A t2 it' cenv wr fp n Kp Bd St ∧ C ∉ fp ∧ D ∉ fp ∧ L ∉ wr ∧ (∀ b ∈ wr, h₀.get? b = none) ∧ (∀ p ∈ news, p.1 ∉ wr) ∧ (∀ p ∈ news, p.1 ≠ C) ∧ (∀ p ∈ news, p.1 ≠ D) ∧
    (∀ b ∈ fp, b ∈ wr ∨ (∃ o, h₀.get? b = some o) ∨ (∃ o, (b, o) ∈ news)) ∧ St 0 hh ∧ Fr h₀ L hh m ∧ hh.Ns C m₀ ∧ Kp m₀ ∧ News h₀ L hh ((D, lst ys₀) :: news) ∧ J 0 ys₀ ∧ (∀ i ys, i < n → J i ys → ys.length ≤ sizeLine) ∧
    (∀ i ys m₂ oC h tk own (E' : Value → Shared → Prop), i < n → J i ys → Bd i m₂ → Kp m₂ → NsObj oC m₂ → Fr h₀ L h m → News h₀ L h ((C, oC) :: (D, lst ys) :: (news ++ own)) →
      wpAny (model prog w) A (tests if2 cenv) (fun ok s₃ => if ok = true then wpAny (model prog w) A (eval elt cenv) (ElEnd h₀ L m C D ys (news ++ own) Kp (J (i + 1)) sO) E' s₃
        else JEnd h₀ L m C D (news ++ own) Kp (J (i + 1)) sO s₃) E' { sO with heap := h, toks := tk }) ∧
    (∀ ys, J n ys → JO ys) ∧ (∀ p ∈ newsO, p ∈ news)
noncomputable def CompAt2 (prog : Program) (w : World) (A : Around) (h₀ : Heap) (L : Addr) (m : Str → Option Value) (env : Env) (target elt t2 it2 : PySem.Expr) (if2 : List PySem.Expr) (scope : Scope) (cl : List (Str × Addr)) (Fin : Shared → Addr → List Value → List (Addr × Obj) → Prop) (it : Value) (s₂ : Shared) : Prop :=
  ∃ (wr fp : List Addr) (n : Nat) (Bd : Nat → (Str → Option Value) → Prop) (St : Nat → Heap → Prop) (news : List (Addr × Obj)) (J : Nat → List Value → Prop),
    (∀ C, C ∉ fp → CWalk prog w A target it (compEnvC scope cl C env) wr fp n (fun _ => True) Bd St) ∧ (∀ b ∈ fp, b < s₂.heap.objs.size) ∧ L ∉ wr ∧ (∀ b ∈ wr, h₀.get? b = none) ∧ (∀ p ∈ news, p.1 ∉ wr) ∧
    (∀ b ∈ fp, b ∈ wr ∨ (∃ o, h₀.get? b = some o) ∨ (∃ o, (b, o) ∈ news)) ∧ St 0 s₂.heap ∧ Fr h₀ L s₂.heap m ∧ News h₀ L s₂.heap news ∧ J 0 [] ∧
    (∀ C D i ys m₂ oC h tk own (E' : Value → Shared → Prop), i < n → (∀ p ∈ news ++ own, p.1 ≠ D ∧ p.1 ≠ C) → C ≠ D → C ≠ L → D ≠ L → h₀.get? C = none → h₀.get? D = none → J i ys → Bd i m₂ → NsObj oC m₂ → Fr h₀ L h m → News h₀ L h ((C, oC) :: (D, lst ys) :: (news ++ own)) →
      wpAny (model prog w) A (eval it2 (compEnvC scope cl C env)) (fun x s₄ => wpAny (model prog w) A (pyIter x) (fun it' s₅ =>
        InAt prog w A h₀ L m (compEnvC scope cl C env) t2 elt if2 C D (news ++ own) (J (i + 1)) s₂ it' s₅) E' s₄) E' { s₂ with heap := h, toks := tk }) ∧
    (∀ D ys, J n ys → (∀ p ∈ news, p.1 < D) → Fin s₂ D ys news)
section
variable {prog : Program} {w : World} {A : Around} {R : Result → Shared → Prop} {E : Value → Shared → Prop} {s : Shared} {h₀ : Heap} {L : Addr} {m : Str → Option Value} {env : Env}
theorem compStart_in {elt target iter t2 it2 : PySem.Expr} {ifs if2 : List PySem.Expr} {scope : Scope} {pos : Pos} {it acc : Value}
    (h0 : codeAny (model prog w) A (.compLoop (.ListComp elt [⟨target, iter, ifs, 0⟩, ⟨t2, it2, if2, 0⟩] scope pos) 1 it acc env) R s)
    (h : wpAny (model prog w) A (pyIter it) (fun it' s' => codeAny (model prog w) A (.compLoop (.ListComp elt [⟨target, iter, ifs, 0⟩, ⟨t2, it2, if2, 0⟩] scope pos) 1 it' acc env) R s')
      (notedBy (model prog w) A env fun x s' => R (.error x) s') s) :
    codeAny (model prog w) A (.compStart (.ListComp elt [⟨target, iter, ifs, 0⟩, ⟨t2, it2, if2, 0⟩] scope pos) 1 it acc env) R s := by
  refine codeAny_of_tree ?_
  show wpAny _ _ ((compStart (.ListComp elt [⟨target, iter, ifs, 0⟩, ⟨t2, it2, if2, 0⟩] scope pos) 1 it acc env).onRaise (fun x => do noteFrame x env; standAt theWindowsPlace)) _ _ s
  refine wpAny_notedAt ?_
  unfold compStart
  show wpAny _ _ (ask >>= _) _ _ s
  refine wpAny_bind (wpAny_askSetting (wpAny_ite ?_))
  split
  · first
      | exact wpAny_bind (wpAny_pure (wpAny_pure (And.intro rfl h0)))
      | exact wpAny_pure (And.intro rfl h0)
  · refine wpAny_bind (wpAny_rule ?_)
    show wpAny _ _ (standAt it2.pos >>= _) _ _ s
    exact wpAny_bind (wpAny_standAt (wpAny_bind (wpAny_mono h (fun it' s' h' => wpAny_pure (And.intro rfl h')) fun _ _ x => x)))
theorem in_run {elt target iter t2 it2 : PySem.Expr} {ifs if2 : List PySem.Expr} {scope : Scope} {pos : Pos} {cenv : Env} {C D : Addr} {newsO : List (Addr × Obj)} {JO : List Value → Prop} {sO : Shared} {it' : Value} {s₅ : Shared} (hCe : cenv.locals = C)
    (hC₀ : h₀.get? C = none) (hD₀ : h₀.get? D = none) (hCL : C ≠ L) (hDL : D ≠ L) (hCD : C ≠ D)
    (H : InAt prog w A h₀ L m cenv t2 elt if2 C D newsO JO sO it' s₅) :
    wpAny (model prog w) A (runOwn (.compStart (.ListComp elt [⟨target, iter, ifs, 0⟩, ⟨t2, it2, if2, 0⟩] scope pos) 1 it' (.ref D) cenv) cenv) (fun _ s₆ => JEnd h₀ L m C D newsO (fun _ => True) JO sO s₆) E s₅ := by
  obtain ⟨wr, fp, n, Kp, Bd, St, news, ys₀, m₀, J, hh, tkk, rfl, W, hCf, hDf, hLw, hw₀, hnw, hnC, hnD, hfpk, hst, F, hn, hk, N, hJ, hlen, turn, done, hsub⟩ := H
  refine wpAny_runOwn ?_
  have loop : codeAny (model prog w) A (.compLoop (.ListComp elt [⟨target, iter, ifs, 0⟩, ⟨t2, it2, if2, 0⟩] scope pos) 1 it' (.ref D) cenv)
      (fun r s' => match r with | .ok _ => JEnd h₀ L m C D newsO (fun _ => True) JO sO s' | .error e => cameBackBy (model prog w) A cenv E e s') { sO with heap := hh, toks := tkk } := by
    refine loop_J (s := ⟨hh, sO.gens, sO.drawn, tkk, sO.os⟩) (news := news) (J := J) (EM := fun Q s₃ => wpAny (model prog w) A (do let _ ← call (.builtin "list.append") [.ref D, ← eval elt cenv]) (fun _ s' => Q s') (notedBy (model prog w) A cenv fun e s' => cameBackBy (model prog w) A cenv E e s') s₃) (E := notedBy (model prog w) A cenv fun e s' => cameBackBy (model prog w) A cenv E e s')
      (fun Iv t n s h => compLoop_any (R := fun r s' => match r with | .ok _ => JEnd h₀ L m C D newsO (fun _ => True) JO sO s' | .error e => cameBackBy (model prog w) A cenv E e s') Iv (turn_in ..) t n h) (fun Q Q' s hq hm => wpAny_mono hm (fun _ s' h => hq s' h) fun _ _ e => e)
      W hCe hC₀ hD₀ hCL hDL hCD hCf hDf hLw hw₀ hnw hnC hnD hfpk hst F hn hk N hJ ?_ ?_
    · intro i ys m₂ oC h tk own hi hown hJi hb hk2 hoC F₂ N₂
      refine wpAny_mono (turn i ys m₂ oC h tk own _ hi hJi hb hk2 hoC F₂ N₂) (fun ok s₃ h₃ => ?_) fun _ _ e => e
      cases ok with
      | true =>
        simp only [if_true] at h₃ ⊢
        exact emit_plain hCD hDL hD₀ (fun p hp => (List.mem_append.mp hp).elim (hnD p) (fun q => (hown p q).1)) (hlen i ys hi hJi) h₃
      | false =>
        simp only [Bool.false_eq_true, if_false] at h₃ ⊢
        exact h₃
    · intro h tk ys m₃ hJn F₃ hn₃ _ N₃
      obtain ⟨oC, heC, hoC⟩ := ns_obj hn₃
      refine ⟨h, tk, ys, oC, m₃, rfl, F₃, fun p hp => ?_, hoC, trivial, done ys hJn⟩
      rcases List.mem_cons.mp hp with rfl | hp
      · exact ⟨heC, hCL, hC₀⟩
      · rcases List.mem_cons.mp hp with rfl | hp
        · exact N₃ _ (List.mem_cons_self ..)
        · exact N₃ _ (List.mem_cons_of_mem _ (hsub p hp))
  exact compStart_in loop (W.self 0 _ _ _ hst loop)
end
end Mine
end
section
open PySem PySem.W PyProof.Rows PySem.Calls PySem.Spec PyProof.V PyProof.Rows.LCg
set_option maxHeartbeats 2000000
namespace Mine
section
variable {prog : Program} {w : World} {A : Around} {R : Result → Shared → Prop} {E : Value → Shared → Prop} {s : Shared} {h₀ : Heap} {L : Addr} {m : Str → Option Value} {env : Env}
theorem block_J2 {elt target iter t2 it2 : PySem.Expr} {if2 : List PySem.Expr} {scope : Scope} {cl : List (Str × Addr)} {pos : Pos} {it : Value} {s₂ : Shared} {Fin : Shared → Addr → List Value → List (Addr × Obj) → Prop} {RR : Value → Addr → Result → Shared → Prop}
    (hcell : ∀ y ∈ scope.names, y.2 ≠ .cell) (hkind : scope.kind = .function) (hs2 : ∀ C x, foldedSetIterable it2 (compEnvC scope cl C env) x = pure x) (H : CompAt2 prog w A h₀ L m env target elt t2 it2 if2 scope cl Fin it s₂)
    (hRR : ∀ D C h tk m' ys news, Fr h₀ L h m → News h₀ L h ((D, lst ys) :: news) → (∀ p ∈ news, p.1 < D) → h.Ns C m' → h₀.get? C = none → h₀.get? D = none → C ≠ L → D ≠ L → C ≠ D → (∀ p ∈ news, p.1 ≠ C) → Fin s₂ D ys news → RR (.ref D) C (.ok .next) { s₂ with heap := h, toks := tk }) :
    wpAny (model prog w) A (newList []) (fun acc s₃ => wpAny (model prog w) A (newFunctionEnv scope env.globals cl [] env.qual none .none (some env)) (fun cenv s₄ =>
      codeAny (model prog w) A (.compStart (.ListComp elt [⟨target, iter, [], 0⟩, ⟨t2, it2, if2, 0⟩] scope pos) 0 it acc { cenv with scope := relabel scope env }) (RR acc cenv.locals) s₄) E s₃) E s₂ := by
  obtain ⟨wr, fp, n, Bd, St, news, J, hW, hfp, hLw, hw₀, hnw, hfpk, hst, F, N, hJ, turn, done⟩ := H
  refine wpAny_newObj_type (wpAny_newFunctionEnv hcell (by intro y hy; simp at hy) (fun h₁ hns₁ hsb₁ => ?_) hkind)
  dsimp only at hns₁ hsb₁ ⊢
  generalize hH2 : s₂.heap.push { cls := .type "list", dict := none, data := .seq ([] : List Value).toArray } = H2 at hns₁ hsb₁ ⊢
  have hC : H2.objs.size = s₂.heap.objs.size + 1 := by rw [← hH2, Heap.size_push]
  have hDC : s₂.heap.objs.size ≠ H2.objs.size := by rw [hC]; exact Nat.ne_of_lt (Nat.lt_succ_self _)
  have below : ∀ b, b < s₂.heap.objs.size → b ≠ H2.objs.size ∧ b ≠ s₂.heap.objs.size := fun b hb => ⟨by rw [hC]; exact Nat.ne_of_lt (Nat.lt_succ_of_lt hb), Nat.ne_of_lt hb⟩
  have hDf : s₂.heap.objs.size ∉ fp := fun hm => Nat.lt_irrefl _ (hfp _ hm)
  have hCf : H2.objs.size ∉ fp := fun hm => by have := hfp _ hm; rw [hC] at this; exact Nat.lt_irrefl _ (Nat.lt_of_succ_lt this)
  have old : ∀ b o, s₂.heap.get? b = some o → h₁.get? b = some o := fun b o e => hsb₁.extBut b o (below b (Heap.lt_size e)).1 (Heap.get?_push_of_some _ (hH2 ▸ Heap.get?_push_of_some _ e))
  have hacc : h₁.get? s₂.heap.objs.size = some (lst []) := hsb₁.extBut _ _ hDC (Heap.get?_push_of_some _ (hH2 ▸ Heap.get?_push_size _ rfl))
  have W := hW _ hCf
  have hst₁ : St 0 h₁ := W.frame _ _ _ hst fun b _ o e => old b o e
  have fresh₀ : ∀ a, s₂.heap.objs.size ≤ a → h₀.get? a = none := fun a ha => by
    cases e : h₀.get? a with
    | none => rfl
    | some o' => exact absurd (Heap.lt_size (F.keep a o' e)) (Nat.not_lt.mpr ha)
  have hD₀ : h₀.get? s₂.heap.objs.size = none := fresh₀ _ (Nat.le_refl _)
  have hC₀ : h₀.get? H2.objs.size = none := fresh₀ _ (by rw [hC]; exact Nat.le_succ _)
  have hLlt : L < s₂.heap.objs.size := F.ns.lt
  have hDL : s₂.heap.objs.size ≠ L := Ne.symm (below L hLlt).2
  have hCL : H2.objs.size ≠ L := Ne.symm (below L hLlt).1
  have N₁ : News h₀ L h₁ ((s₂.heap.objs.size, lst []) :: news) := fun p hp => by
    rcases List.mem_cons.mp hp with rfl | hp
    · exact ⟨hacc, hDL, hD₀⟩
    · exact ⟨old _ _ (N p hp).1, (N p hp).2⟩
  have loop : ∀ s₃ : Shared, s₃ = { s₂ with heap := h₁, toks := s₂.toks + ([] : List (Str × Value)).length } →
      codeAny (model prog w) A (.compLoop (.ListComp elt [⟨target, iter, [], 0⟩, ⟨t2, it2, if2, 0⟩] scope pos) 0 it (.ref s₂.heap.objs.size) (compEnvC scope cl H2.objs.size env))
        (RR (.ref s₂.heap.objs.size) H2.objs.size) s₃ := by
    rintro s₃ rfl
    refine loop_J (s := ⟨h₁, s₂.gens, s₂.drawn, _, s₂.os⟩) (news := news) (J := J)
      (EM := fun Q s₃ => wpAny (model prog w) A (eval it2 (compEnvC scope cl H2.objs.size env)) (fun x s₄ => wpAny (model prog w) A (pyIter x) (fun it' s₅ =>
        wpAny (model prog w) A (runOwn (.compStart (.ListComp elt [⟨target, iter, [], 0⟩, ⟨t2, it2, if2, 0⟩] scope pos) 1 it' (.ref s₂.heap.objs.size) (compEnvC scope cl H2.objs.size env)) (compEnvC scope cl H2.objs.size env)) (fun _ s₆ => Q s₆) (notedBy (model prog w) A (compEnvC scope cl H2.objs.size env) fun e s' => RR (.ref s₂.heap.objs.size) H2.objs.size (.error e) s') s₅)
          (notedBy (model prog w) A (compEnvC scope cl H2.objs.size env) fun e s' => RR (.ref s₂.heap.objs.size) H2.objs.size (.error e) s') s₄) (notedBy (model prog w) A (compEnvC scope cl H2.objs.size env) fun e s' => RR (.ref s₂.heap.objs.size) H2.objs.size (.error e) s') s₃)
      (E := notedBy (model prog w) A (compEnvC scope cl H2.objs.size env) fun e s' => RR (.ref s₂.heap.objs.size) H2.objs.size (.error e) s')
      (fun Iv t n s h => compLoop_out (ifs := []) Iv (hs2 _) t n h) (fun Q Q' s hq hm => wpAny_mono hm (fun x s₄ h₄ => wpAny_mono h₄ (fun it' s₅ h₅ => wpAny_mono h₅ (fun _ s₆ h₆ => hq s₆ h₆) fun _ _ e => e) fun _ _ e => e) fun _ _ e => e)
      W rfl hC₀ hD₀ hCL hDL (Ne.symm hDC) hCf hDf hLw hw₀ hnw (fun p hp => (below _ (Heap.lt_size (N p hp).1)).1) (fun p hp => (below _ (Heap.lt_size (N p hp).1)).2) hfpk hst₁ (F.keeps old) hns₁ trivial N₁ hJ ?_ ?_
    · intro i ys m₂ oC h tk own hi hown hJi hb _ hoC F₂ N₂
      refine wpAny_tests_nil ?_
      simp only [if_true]
      refine wpAny_mono (turn _ _ i ys m₂ oC h tk own _ hi (fun p hp => (List.mem_append.mp hp).elim (fun q => ⟨(below _ (Heap.lt_size (N p q).1)).2, (below _ (Heap.lt_size (N p q).1)).1⟩) (hown p)) (Ne.symm hDC) hCL hDL hC₀ hD₀ hJi hb hoC F₂ N₂) (fun x s₄ h₄ => wpAny_mono h₄ (fun it' s₅ h₅ => ?_) fun _ _ e => e) fun _ _ e => e
      exact in_run rfl hC₀ hD₀ hCL hDL (Ne.symm hDC) h₅
    · intro h tk ys m₃ hJn F₃ hn₃ _ N₃
      exact hRR _ _ h tk m₃ ys news F₃ N₃ (fun p hp => Heap.lt_size (N p hp).1) hn₃ hC₀ hD₀ hCL hDL (Ne.symm hDC) (fun p hp => (below _ (Heap.lt_size (N p hp).1)).1) (done _ ys hJn fun p hp => Heap.lt_size (N p hp).1)
  exact codeAny_compStart_list (loop _ rfl) (W.self 0 _ _ _ hst₁ (loop _ rfl))
theorem ListComp_J2 {elt target iter t2 it2 : PySem.Expr} {if2 : List PySem.Expr} {scope : Scope} {cl : List (Str × Addr)} {pos : Pos} {Q : Value → Shared → Prop} (_F₀ : Fr h₀ L s.heap m)
    (hclos : closureFor scope env = pure cl) (hcell : ∀ y ∈ scope.names, y.2 ≠ .cell) (hkind : scope.kind = .function)
    (hnames : ∀ y ∈ scope.names, y.2 = .local → scope.names.lookup y.1 = some .local)
    (h : wpAny (model prog w) A (eval iter env) (fun xv s₁ => wpAny (model prog w) A (pyIter xv) (fun it s₂ => CompAt2 prog w A h₀ L m env target elt t2 it2 if2 scope cl (FinEJ h₀ L m Q) it s₂) E s₁) E s)
    (hs : ∀ x, foldedSetIterable iter env x = pure x)
    (hs2 : ∀ C x, foldedSetIterable it2 (compEnvC scope cl C env) x = pure x) :
    wpAny (model prog w) A (eval (.ListComp elt [⟨target, iter, [], 0⟩, ⟨t2, it2, if2, 0⟩] scope pos) env) Q E s := by
  rw [eval_ListComp]
  refine wpAny_comprehension_free (use := none) rfl hs hclos hkind hnames (wpAny_mono h (fun xv s₁ h₁ => wpAny_mono h₁ (fun it s₂ h₂ => ?_) fun _ _ e => e) fun _ _ e => e)
  refine block_J2 hcell hkind hs2 h₂ ?_
  intro D C h tk m' ys news F' N' lt hn hC₀ hD₀ hCL hDL hCD offC fin
  refine ⟨m', hn, fun h'' hs'' => fin h'' tk (F'.change hs'' hCL hC₀) (fun p hp => ?_) lt⟩
  refine ⟨hs''.extBut _ _ ?_ (N' p hp).1, (N' p hp).2⟩
  rcases List.mem_cons.mp hp with rfl | hp
  · exact Ne.symm hCD
  · exact offC p hp
noncomputable def J2Turn (prog : Program) (w : World) (A : Around) (h₀ : Heap) (L : Addr) (m : Str → Option Value) (env : Env) (elt t2 it2 : PySem.Expr) (if2 : List PySem.Expr) (scope : Scope) (cl : List (Str × Addr)) (s : Shared) (news : List (Addr × Obj)) (n : Nat) (J : Nat → List Value → Prop) (Bd : Nat → (Str → Option Value) → Prop) : Prop :=
  ∀ C D i ys m₂ oC h tk own (E' : Value → Shared → Prop), i < n → (∀ p ∈ news ++ own, p.1 ≠ D ∧ p.1 ≠ C) → C ≠ D → C ≠ L → D ≠ L → h₀.get? C = none → h₀.get? D = none → J i ys → Bd i m₂ → NsObj oC m₂ → Fr h₀ L h m → News h₀ L h ((C, oC) :: (D, lst ys) :: (news ++ own)) →
      wpAny (model prog w) A (eval it2 (compEnvC scope cl C env)) (fun x s₄ => wpAny (model prog w) A (pyIter x) (fun it' s₅ =>
        InAt prog w A h₀ L m (compEnvC scope cl C env) t2 elt if2 C D (news ++ own) (J (i + 1)) s it' s₅) E' s₄) E' { s with heap := h, toks := tk }
theorem comp_range2 {elt t2 it2 : PySem.Expr} {if2 : List PySem.Expr} {scope : Scope} {cl : List (Str × Addr)} {Fin : Shared → Addr → List Value → List (Addr × Obj) → Prop} {news : List (Addr × Obj)}
    {r : Addr} {a b : Int} {t u v : Tok} {n : Nat} {nx : Str} {px : Pos} (hh : A.handled = none) (F : Fr h₀ L s.heap m) (N : News h₀ L s.heap news) (hr : IsRange s.heap r a b 1 t u v) (hsm : Builtin.Range.small a b 1 = true) (hn : Builtin.Range.rangeSize a b 1 = ((n : Nat) : Int))
    (hx : scope.names.lookup nx = some .local) (hkind : scope.kind = .function)
    (J : Nat → List Value → Prop) (hJ : J 0 [])
    (turn : J2Turn prog w A h₀ L m env elt t2 it2 if2 scope cl s news n J (fun i m₂ => ∃ t, m₂ nx = some (.int (a + (i : Int)) t)))
    (done : ∀ g D ys, J n ys → (∀ p ∈ news, p.1 < D) → Fin { s with heap := g } D ys news) :
    wpAny (model prog w) A (pyIter (.ref r)) (fun it s₂ => CompAt2 prog w A h₀ L m env (.Name nx px) elt t2 it2 if2 scope cl Fin it s₂) E s := by
  refine wpAny_pyIter_range hr hsm ?_
  refine ⟨[s.heap.objs.size], [s.heap.objs.size], n, _, _, news, J, fun C hC => CWalk.name (range_walks hh a n) hC (lookup_relabel_local hx) (by simp [compEnvC, relabel, hkind]) (fun _ _ _ => trivial), ?_, ?_, ?_, ?_, ?_, (by show IsRangeIter _ _ _ _ _; rw [hn]; simpa using Heap.get?_push_size _ rfl), F.push _, fun p hp => ⟨Heap.get?_push_of_some _ (N p hp).1, (N p hp).2⟩, hJ, ?_, ?_⟩
  · intro b hb
    rw [List.mem_singleton.mp hb]
    show _ < (s.heap.push _).objs.size
    rw [Heap.size_push]; exact Nat.lt_succ_self _
  · exact fun hm => absurd F.ns.lt ((List.mem_singleton.mp hm) ▸ Nat.lt_irrefl _)
  · intro b hb
    rw [List.mem_singleton.mp hb]
    exact next_is_new F
  · intro p hp hI
    exact absurd (Heap.lt_size (N p hp).1) ((List.mem_singleton.mp hI) ▸ Nat.lt_irrefl _)
  · exact fun b hb => .inl hb
  · intro C D i ys m₂ oC h tk own E' hi ho h1 h2 h3 h4 h5 hJi hB hoC F₂ N₂
    refine turn C D i ys m₂ oC h tk own E' hi ho h1 h2 h3 h4 h5 hJi ?_ hoC F₂ N₂
    obtain ⟨v, ⟨t, rfl⟩, hm⟩ := hB
    exact ⟨t, hm⟩
  · exact fun D ys hJn hlt => done _ D ys hJn hlt
/-- the inner range: what the outer name holds, stays -/
theorem in_range {elt : PySem.Expr} {if2 : List PySem.Expr} {scope : Scope} {cl : List (Str × Addr)} {C D : Addr} {newsO news : List (Addr × Obj)} {JO : List Value → Prop} {sO : Shared} {hh : Heap} {tkk : Nat} {oC : Obj} {ys : List Value} {m₂ : Str → Option Value}
    {r : Addr} {b : Int} {t u v : Tok} {n : Nat} {nk nx : Str} {px : Pos} {vk : Value} (hA : A.handled = none) (F : Fr h₀ L hh m) (N : News h₀ L hh ((C, oC) :: (D, lst ys) :: news)) (hoC : NsObj oC m₂) (hsub : ∀ p ∈ newsO, p ∈ news) (hnCD : ∀ p ∈ news, p.1 ≠ D ∧ p.1 ≠ C)
    (hr : IsRange hh r 0 b 1 t u v) (hsm : Builtin.Range.small 0 b 1 = true) (hn : Builtin.Range.rangeSize 0 b 1 = ((n : Nat) : Int))
    (hx : scope.names.lookup nx = some .local) (hkind : scope.kind = .function) (hkx : nk ≠ nx) (hkv : m₂ nk = some vk)
    (J : Nat → List Value → Prop) (hJ : J 0 ys) (hlen : ∀ i ys, i < n → J i ys → ys.length ≤ sizeLine)
    (turn : ∀ i ys m₃ oC h tk own (E' : Value → Shared → Prop), i < n → J i ys → (∃ t, m₃ nx = some (.int (i : Int) t)) → m₃ nk = some vk → NsObj oC m₃ → Fr h₀ L h m → News h₀ L h ((C, oC) :: (D, lst ys) :: (news ++ own)) →
      wpAny (model prog w) A (tests if2 (compEnvC scope cl C env)) (fun ok s₃ => if ok = true then wpAny (model prog w) A (eval elt (compEnvC scope cl C env)) (ElEnd h₀ L m C D ys (news ++ own) (fun m' => m' nk = some vk) (J (i + 1)) sO) E' s₃
        else JEnd h₀ L m C D (news ++ own) (fun m' => m' nk = some vk) (J (i + 1)) sO s₃) E' { sO with heap := h, toks := tk })
    (done : ∀ ys, J n ys → JO ys) :
    wpAny (model prog w) A (pyIter (.ref r)) (fun it' s₅ => InAt prog w A h₀ L m (compEnvC scope cl C env) (.Name nx px) elt if2 C D newsO JO sO it' s₅) E { sO with heap := hh, toks := tkk } := by
  refine wpAny_pyIter_range hr hsm ?_
  have hCs : C < hh.objs.size := Heap.lt_size (N _ (List.mem_cons_self ..)).1
  have hDs : D < hh.objs.size := Heap.lt_size (N _ (List.mem_cons_of_mem _ (List.mem_cons_self ..))).1
  refine ⟨[hh.objs.size], [hh.objs.size], n, (fun m' => m' nk = some vk), _, _, news, ys, m₂, J, _, tkk, rfl, CWalk.name (range_walks hA 0 n) ?_ (lookup_relabel_local hx) (by simp [compEnvC, relabel, hkind]) (fun m' v' hk => by simp only [if_neg hkx]; exact hk), ?_, ?_, ?_, ?_, ?_, fun p hp => (hnCD p hp).2, fun p hp => (hnCD p hp).1, fun b hb => .inl hb, (by show IsRangeIter _ _ _ _ _; rw [hn]; simpa using Heap.get?_push_size _ rfl), F.push _, ?_, hkv, ?_, hJ, hlen, ?_, done, hsub⟩
  · exact fun hm => absurd hCs ((List.mem_singleton.mp hm) ▸ Nat.lt_irrefl _)
  · exact fun hm => absurd hCs ((List.mem_singleton.mp hm) ▸ Nat.lt_irrefl _)
  · exact fun hm => absurd hDs ((List.mem_singleton.mp hm) ▸ Nat.lt_irrefl _)
  · exact fun hm => absurd F.ns.lt ((List.mem_singleton.mp hm) ▸ Nat.lt_irrefl _)
  · intro b hb
    rw [List.mem_singleton.mp hb]
    exact next_is_new F
  · intro p hp hI
    exact absurd (Heap.lt_size (N p (List.mem_cons_of_mem _ (List.mem_cons_of_mem _ hp))).1) ((List.mem_singleton.mp hI) ▸ Nat.lt_irrefl _)
  · exact hoC.ns (Heap.get?_push_of_some _ (N _ (List.mem_cons_self ..)).1)
  · exact fun p hp => ⟨Heap.get?_push_of_some _ (N p (List.mem_cons_of_mem _ hp)).1, (N p (List.mem_cons_of_mem _ hp)).2⟩
  · intro i ys m₃ oC h tk own E' hi hJi hB hk hoC F₂ N₂
    refine turn i ys m₃ oC h tk own E' hi hJi ?_ hk hoC F₂ N₂
    obtain ⟨v', ⟨t', rfl⟩, hm⟩ := hB
    exact ⟨t', by rw [hm]; simp⟩
end
end Mine
end
section
open PySem PySem.W PyProof.Rows PyProof.Rows.LCg
set_option maxHeartbeats 8000000
set_option pp.deepTerms false
set_option pp.maxSteps 3000
namespace Mine

theorem end_true {s₀ s₁ s' : Shared} {ns : List Int} {L : Addr} {m : Str → Option Value} (F : Fr s₁.heap L s'.heap m) (hg : AllBare s'.gens) (hos : s'.os = s₁.os) :
    GoodWG PySem.Challenge.rw_wn0054_01.row.claim (classAt s₀.heap) (ExcName.means s₀.heap) [ofPy (PyData.list (List.map PyData.int ns))] s₁ (Except.ok (Flow.ret (Value.bool true))) s' := by
  have h : GoodW PySem.Challenge.rw_wn0054_01.row.claim (classAt s₀.heap) (ExcName.means s₀.heap) [ofPy (PyData.list (List.map PyData.int ns))] s₁ (Except.ok (Flow.ret (Value.bool true))) { s' with gens := #[] } := by
    refine goodW_bool (s' := { s' with gens := #[] }) F rfl (raisesW_false (by wrow_none_raised)) ?_ hos
    wrow_post
  exact ⟨h.1, .of_keep h.2.1, h.2.2.1, hg⟩
theorem ne_sm {prog : Program} {w : World} {A : Around} {E : Value → Shared → Prop} {s : Shared} {x : Str} {t u : Tok} {Q : Value → Shared → Prop} (h : Q (.bool false) s) : wpAny (model prog w) A (compareOp .NotEq (.str x t) (.str x u)) Q E s := by
  refine ne_str ?_
  have : (x != x) = false := by simp
  rw [this]
  exact h
theorem tri_size {k i : Nat} (hk : k < 7) (hi : i < k) : triN k + i ≤ sizeLine := by
  have h1 := triN_le k (Nat.le_of_lt hk)
  rw [sizeLine_eq]; omega
theorem un_size {w : List Nat} {k i : Nat} (hk : k < 7) (hi : i < k) : unK w k + unI w k i ≤ sizeLine := by
  have h1 := unK_le w k (Nat.le_of_lt hk)
  have h2 := unI_le w k i
  rw [sizeLine_eq]; omega
theorem with_lt {k m : Nat} {P : Prop} (_h : k < m) (g : ∀ k', k' = k → P) : P := g _ rfl
theorem law_holds : PySem.Challenge.rw_wn0054_01.Holds := by
  refine hd_law (hd ?_)
  w_top off; k_with_none; k_fill
  k_with "eval ListComp" => (k_here; (with_reducible show wpAny _ _ (eval (Expr.ListComp _ [_] _ _) _) _ _ _); k_dflt (refine ListComp_J (hs := by intro _; rfl) (_F₀ := by k_asm) (by with_unfolding_all rfl) (by decide) (by rfl) (by decide) ?_); k_whole)
  k_with "exec Assign cons ListComp" => (k_here; k_dflt (refine Assign_ListComp_J (hs := by intro _; rfl) (_F₀ := by k_asm) (by rfl) (by with_unfolding_all rfl) (by with_unfolding_all rfl) (by decide) (by rfl) (by decide) (by rfl) (by rfl) ?_); k_whole)
  k_with "eval ListComp" => (k_here; (with_reducible show wpAny _ _ (eval (Expr.ListComp _ [_, _] _ _) _) _ _ _); k_dflt (refine ListComp_J2 (hs := by intro _; rfl) (hs2 := by intro _ _; rfl) (_F₀ := by k_asm) (by with_unfolding_all rfl) (by decide) (by rfl) (by decide) ?_); k_whole)
  k_with "call ref" => (k_here; refine stopW ?_)
  k_with "subscriptTail Name Slice ref ref" => (k_here; (rename Fr _ _ _ _ => lFqw4); (rename News _ _ _ _ => lNqw4); k_dflt (refine slice_7 (hs := by with_unfolding_all rfl) (ht := by intro _; with_unfolding_all rfl) (s := ⟨_, _, _, _, _⟩) lFqw4 lNqw4 (by k_mem) (by omega) ?_); k_whole; intro _ _ _ _ _)
  k_with "pyIter ref" => (k_here; (first | (with_reducible show wpAny _ _ _ (fun _ _ => CompAt _ _ _ _ _ _ _ _ _ _ _ _ _ _ _) _ _) | (with_reducible show wpAny _ _ _ (fun _ _ => CompAt2 _ _ _ _ _ _ _ _ _ _ _ _ _ _ _ _ _) _ _) | (with_reducible show wpAny _ _ _ (fun _ _ => InAt _ _ _ _ _ _ _ _ _ _ _ _ _ _ _ _ _) _ _)); refine stopW ?_)
  k_with "subscriptTail" => (k_here; (with_reducible show wpAny _ _ (subscriptTail _ _ (Value.str _ _) (Value.int (Int.fmod _ _) _)) _ _ _); k_dflt (refine item_abab (hs := by with_unfolding_all rfl) (ht := by intro _; with_unfolding_all rfl) ?_); k_whole; intro _ _)
  k_with "call builtin:str.join" => (k_here; (rename News _ _ _ _ => lNqw7); (rename StrsAre _ _ => q9w7); k_dflt (refine join_word lNqw7 q9w7 (by assumption) ?_); k_whole; intro _ _ _ _)
  k_with "subscriptTail Name Constant ref int" => (k_here; (rename News _ _ _ _ => lNqw8); k_dflt (refine get_lit (hs := by with_unfolding_all rfl) lNqw8 (by k_mem) (by assumption) (by decide) (by assumption) ?_); k_whole; intro _)
  k_with "subscriptTail Name Constant ref int" => (k_here; (rename News _ _ _ _ => lNqw9); k_dflt (refine get_lit (hs := by with_unfolding_all rfl) lNqw9 (by k_mem) (by assumption) (by decide) (by assumption) ?_); k_whole; intro _ _ _)
  k_with "binaryOp Mod int int" => (k_here; first | ((refine mod_nat 27 (by decide) (by decide) ?_); k_whole; intro _ _ _) | ((refine mod_nat 8 (by decide) (by decide) ?_); k_whole; intro _ _ _) | ((refine mod_nat 3 (by decide) (by decide) ?_); k_whole; intro _ _ _))
  k_with "storeName" => (k_here; (with_reducible show wpAny _ _ (storeName _ (Str.ofString "word") _) _ _ _); refine stopW ?_)
  k_with "compareOp NotEq str str" => (k_here; (with_reducible refine ne_sm ?_); k_whole)
  k_with "subscriptTail Name Slice str ref" => (k_here; ((with_reducible rename Fr _ _ _ _ => Fqw13); (with_reducible rename News _ _ _ _ => Nqw13); (with_reducible show wpAny _ _ (subscriptTail _ (Expr.Slice none (some _) none _) (Value.str _ _) (Value.ref _)) _ _ _); (refine slice_strN_ns (hsz := ?hsz) (s := ⟨_, _, _, _, _⟩) Fqw13 Nqw13 ?_); (case hsz => (rw [sizeLine_eq]; omega)); intro _ _ _ _ _))
  k_with "subscriptTail Name Name str int" => (k_here; k_dflt (refine item_code (hs := by with_unfolding_all rfl) (ht := by intro _; with_unfolding_all rfl) (by assumption) (by assumption) ?_); k_whole; intro _ _)
  k_with "call builtin:len" => (k_here; (rename News _ _ _ _ => lNqw15); k_dflt (refine len_mem lNqw15 (List.mem_cons_self ..) (by assumption) ?_); k_whole; intro _)
  k_with "storeName" => (k_here; (with_reducible show wpAny _ _ (storeName _ (Str.ofString "other") _) _ _ _); (rename Fr _ _ _ _ => lFqw16); (rename News _ _ _ _ => lNqw16); k_dflt (refine' store_cellF (by rfl) (by rfl) (by rfl) lFqw16 lNqw16 ?U ?hd ?_; (case U => k_updF); (case hd => assumption)); k_whole; intro hqw16 oqw16 hoqw16 Fqw16 Nqw16; (try dsimp only))
  intro w s₀ s₁ mg mb G Y fa o pm cd doc dV kV ho hdd hcd hD hmg hg args vals as hpre hlay hrd hwl hlo
  have KX := kIn_of Y
  have X := (Ground.X G).1
  have V := (Ground.X G).2
  try w_nolog (first | (have GL := glob_more (Ground.glob G (by decide +kernel) (by decide +kernel)) V) | (have GL := glob_more (Ground.glob G (by decide +kernel)) V))
  refine Ground.open G ?_
  intro T B D TE TW
  try (refine guard_noD D (by decide +kernel) ?_; clear D)
  obtain ⟨_, _, M⟩ := bmod_of_top T
  have TA := at_of_top T
  try (obtain ⟨_, _, he, B0⟩ := based_of_top T rfl hmg ho hdd; have he' : cd = _ := he; subst he'; clear he)
  clear hmg
  wrow_args hpre hlay hrd hwl hlo
  refine enter_call ?_
  w_top on
  have K0 := below_caller (Top.heap T)
  w_call any ho hdd hcd hD T F
  clear hdd TA
  k_drop

  (all_goals try k_fold)
  rename Shared => s1
  rename Fr _ _ _ _ => F0
  rename News _ _ _ _ => N0
  rename (_ = Data.cell _) => ho1
  replace ho1 := ho1.trans (congrArg Data.cell (show _ = (none : Option Value) by with_unfolding_all rfl))
  rename (_ = Data.cell (bindC _ _ _ _)) => ho0
  replace ho0 := ho0.trans (congrArg Data.cell (show _ = (none : Option Value) by with_unfolding_all rfl))
  rename Heap.IsList _ _ _ => hL0
  rename IntsAre _ _ => hI0
  rename Heap.CodeRec _ _ _ => hcd0
  clear hcd0
  try (rename CellsAre _ _ _ => X00; clear X00)
  rename Dflts _ _ _ _ _ _ => hD00
  clear hD00
  refine with_list hL0 hI0 ?_
  intro ax vs ns e1 e2 e3
  subst e1 e2 e3
  have hn63 : ns.length ≤ 63 := by omega
  refine with_news2 N0 ?_
  intro o0 o1 e2 e3
  subst e2 e3
  replace F0 := fr_to (m' := fun y => if y = Str.ofString "script" then some (.ref ax) else none) F0 (by with_unfolding_all rfl)
  k_steps
  unfold StopW
  k_dflt (refine c57 _ _ _ _ ax vs ns hI0 hn63 _ _ _ _ _ _ _ _ _ _ _ _ _ _ _ _ _ _ (by k_asm) (by k_asm) (by k_asm) (by k_asm) (by k_asm) (by first | exact rfl | assumption) (by ktr_room) (by ktr_units) hL0 ?_)
  intro D us c ms h1 tk1 F1 N1 hlt1 hms hml
  have hus : us.length = 9 := by rw [hms.length, hml]
  (try dsimp only)
  (try k_fold)
  k_steps
  unfold StopW
  rename Fr _ _ _ _ => lF'
  rename News _ _ _ _ => lN'
  refine comp_list (its := (us.take 7).toArray) (by rfl) lF' lN' (.inr ⟨_, List.mem_cons_self .., rfl, _, rfl⟩) (by rfl) (by rfl) (fun i ys => StrsAre ys (((ms.take 7).take i).map fun x => sgn (ltr x))) .nil (fun i ys hi hy => ?wlen) ?wturn ?wdone
  case wlen =>
    rw [hy.length, List.length_map, List.length_take, PySem.sizeLine_eq, List.length_take]
    omega
  case wturn =>
    clear lF' lN'
    unfold JTurn
    rintro C D4 i4 ys4 m₄ oC4 hh4 tk5 own4 E4 hi4 hJ4 ⟨v4, hv4, hx4⟩ hoC4 FF5 NN5
    obtain ⟨n4, t4, rfl, hn4⟩ := IntsAre.at (hms.take 7) i4 v4 (by simpa using hv4)
    refine wpAny_tests_nil ?_
    simp only [if_true]
    simp only [List.cons_append] at NN5
    k_steps
    refine ⟨_, _, oC4, m₄, rfl, by assumption, by assumption, hoC4, trivial, ?_⟩
    show StrsAre _ (((ms.take 7).take (i4 + 1)).map fun x => sgn (ltr x))
    rw [List.take_add_one, hn4, List.map_append]
    exact strs_snoc hJ4
  case wdone =>
    clear lF' lN'
    intro g3 D3 ys3 hy3 hlt3
    unfold FinEJ
    intro h4 tk4 FF4 NN4 hlt4
    have hys3 : StrsAre ys3 ((wordL ms).map sgn) := by
      have : (us.take 7).toArray.size = 7 := by rw [List.size_toArray, List.length_take]; omega
      rw [this, List.take_of_length_le (l := ms.take 7) (by rw [List.length_take]; omega)] at hy3
      unfold wordL
      rw [List.map_map]
      exact hy3
    have hw100 : (wordL ms).length ≤ 100 := by rw [wordL_len hml]; decide
    (try dsimp only)
    (try k_fold)
    k_steps
    unfold StopW
    rename Fr _ _ _ _ => lF'
    rename News _ _ _ _ => lN'
    rename (cl _ = wordL ms) => hcw
    have hDgt : @LT.lt Nat _ (s1.heap.objs.size + 1 + 1) D := hlt1 _ (List.mem_cons_self ..)
    replace lN' := news_sub (news' := [(D, listOf us.toArray c), (s1.heap.objs.size + 1 + 1, o0), (s1.heap.objs.size + 1, o1)]) lN' (fun p hp => List.mem_cons_of_mem _ (List.mem_cons_of_mem _ hp))
    k_dflt (refine store_cellM (pre := [(D, _), (_, o0)]) (rest := []) (by rfl) (by rfl) (by rfl) lF' lN' ho1 (fun p hp => ?_) (fun p hp => by cases hp) ?_)
    · rcases List.mem_cons.mp hp with rfl | hp
      · exact Nat.ne_of_gt (Nat.lt_of_succ_lt hDgt)
      · rw [List.mem_singleton.mp hp]; exact Nat.succ_ne_self _
    clear lF' lN' ho1
    try clear FF4
    try clear NN4
    try clear hlt4
    intro h5 o2 ho2 F5 N5
    simp only [List.cons_append, List.nil_append] at N5
    refine with_cl hcw ?_
    intro word e1
    subst e1
    have hw7 : word.length = 7 := by rw [← cl_len, hcw, wordL_len hml]
    have hwS : Signs word := by unfold Signs; rw [hcw]; exact wordL_lt ms
    clear hcw
    (try dsimp only)
    (try k_fold)
    k_steps
    unfold StopW
    -- _law_there(word)
    have hbare : AllBare s1.gens := by
      rename (s1.gens = #[]) => hg
      rw [hg]
      intro y hy
      simp at hy
    k_dflt (refine c71 _ _ _ _ word _ (thr_hw hw7) _ _ _ _ _ _ _ _ _ _ _ _ _ _ _ _ _ _ (by k_asm) (by k_asm) (by k_asm) (by k_asm) (by k_asm) (by first | exact rfl | assumption) (by ktr_room) (by ktr_units) hbare ?_)
    intro t71 h71 tk71 gs71 h271 _ hb71 hs71 F71 N71
    replace F71 := Mine.Fr.so_nil hs71 F71
    replace N71 := Mine.News.so_nil hs71 N71
    clear hs71 hbare
    have hth := cl_thr word
    generalize thr (KStt.codes word) = there at hth
    have ht7 : there.length = 7 := by rw [← cl_len, hth, thL_len, cl_len, hw7]
    (try dsimp only)
    (try k_fold)
    k_steps
    unfold StopW
    -- _law_back(word)
    k_dflt (refine c78 _ _ _ _ word _ hw7 (bkS word) (bk_hR word) _ _ _ _ _ _ _ _ _ _ _ _ _ _ _ _ _ _ (by k_asm) (by k_asm) (by k_asm) (by k_asm) (by k_asm) (by first | exact rfl | assumption) (by ktr_room) (by ktr_units) (by assumption) ?_)
    intro t78 h78 tk78 gs78 h278 _ hb78 hs78 F78 N78
    replace F78 := Mine.Fr.so_nil hs78 F78
    replace N78 := Mine.News.so_nil hs78 N78
    clear hs78
    try clear F71
    try clear N71
    have hbl := bkS_len hw7
    have hbt := thr_bkS hw7
    have hbc := cl_bkS word
    generalize bkS word = back at hbl hbt hbc
    (try dsimp only)
    (try k_fold)
    k_steps
    unfold StopW
    -- _law_back(there)
    k_dflt (refine c78 _ _ _ _ there _ ht7 word (back_hR hw7 hth) _ _ _ _ _ _ _ _ _ _ _ _ _ _ _ _ _ _ (by k_asm) (by k_asm) (by k_asm) (by k_asm) (by k_asm) (by first | exact rfl | assumption) (by ktr_room) (by ktr_units) (by assumption) ?_)
    intro t79 h79 tk79 gs79 h279 _ hb79 hs79 F79 N79
    replace F79 := Mine.Fr.so_nil hs79 F79
    replace N79 := Mine.News.so_nil hs79 N79
    clear hs79
    try clear F78
    try clear N78
    (try dsimp only)
    (try k_fold)
    k_steps
    unfold StopW
    -- _law_there(back)
    k_dflt (refine c71 _ _ _ _ back _ (thr_hw hbl) _ _ _ _ _ _ _ _ _ _ _ _ _ _ _ _ _ _ (by k_asm) (by k_asm) (by k_asm) (by k_asm) (by k_asm) (by first | exact rfl | assumption) (by ktr_room) (by ktr_units) (by assumption) ?_)
    intro t72 h72 tk72 gs72 h272 _ hb72 hs72 F72 N72
    replace F72 := Mine.Fr.so_nil hs72 F72
    replace N72 := Mine.News.so_nil hs72 N72
    clear hs72
    try clear F79
    try clear N79
    rw [hbt]
    (try dsimp only)
    (try k_fold)
    k_steps
    unfold StopW
    -- _strcoll(word, front)
    rename (_ < 8) => hk8
    refine with_lt hk8 ?_
    intro k8 e1
    subst e1
    rename (_ < 27) => hpl
    refine with_lt hpl ?_
    intro pl e1
    subst e1
    have hfc := cl_to there k8
    k_dflt (refine c21 _ _ _ _ word (Txt.slice there none (some (k8 : Int))) _ _ _ _ _ _ _ _ _ _ _ _ _ _ _ _ _ _ _ _ (by k_asm) (by k_asm) (by k_asm) (by k_asm) (by k_asm) (by first | exact rfl | assumption) (by ktr_room) (by ktr_units) ?_)
    intro t21 h21 tk21 F21 N21
    try clear F72
    try clear N72
    (try dsimp only)
    (try k_fold)
    k_steps
    unfold StopW
    have hf7 : (Txt.slice there none (some (k8 : Int))).length ≤ 7 := by rw [← cl_len, hfc, List.length_take, cl_len, ht7]; omega
    have hfS : Signs (Txt.slice there none (some (k8 : Int))) := by
      intro c hc
      rw [hfc] at hc
      exact thL_lt hwS (hth ▸ List.mem_of_mem_take hc)
    have hord := order_law (word := word) (front := Txt.slice there none (some (k8 : Int))) hw7 hf7 hwS hfS
    k_dflt (refine c83 _ _ _ _ word _ (by omega) hwS _ _ _ _ _ _ _ _ _ _ _ _ _ _ _ _ _ _ (by k_asm) (by k_asm) (by k_asm) (by k_asm) (by k_asm) (by first | exact rfl | assumption) (by ktr_room) (by ktr_units) ?_)
    intro t83 h83 tk83 F83 N83
    try clear F21
    try clear N21
    (try dsimp only)
    (try k_fold)
    k_steps
    unfold StopW
    k_dflt (refine c83 _ _ _ _ (Txt.slice there none (some (k8 : Int))) _ (by omega) hfS _ _ _ _ _ _ _ _ _ _ _ _ _ _ _ _ _ _ (by k_asm) (by k_asm) (by k_asm) (by k_asm) (by k_asm) (by first | exact rfl | assumption) (by ktr_room) (by ktr_units) ?_)
    intro t84 h84 tk84 F84 N84
    try clear F83
    try clear N83
    (try dsimp only)
    (try k_fold)
    k_steps
    · exact absurd hord (by assumption)
    unfold StopW
    try clear F84
    try clear N84
    rename Fr _ _ _ _ => lF'
    rename News _ _ _ _ => lN'
    refine comp_range2 (n := 7) (by rfl) lF' lN' (by assumption) (by decide) (by decide) (by rfl) (by rfl) (fun k ys => ys.length = unK (cl word) k) rfl ?uturn ?udone
    case uturn =>
      clear lF' lN'
      unfold J2Turn
      rintro C1 D1 k ys1 m1 oC1 hh1 tk1' own1 E1 hk1 hown1 hCD1 hCL1 hDL1 hC01 hD01 hJ1 ⟨tk2', hx1⟩ hoC1 FF1 NN1
      have hwl : (cl word).length = 7 := by rw [cl_len, hw7]
      obtain ⟨d, hd⟩ : ∃ d, (cl word)[k]? = some d := ⟨_, List.getElem?_eq_getElem (by omega)⟩
      simp only [List.cons_append, List.nil_append, Int.zero_add] at NN1 hx1
      k_steps
      unfold StopW
      rename Fr _ _ _ _ => lF'
      rename News _ _ _ _ => lN'
      refine in_range (n := k) (by rfl) lF' lN' hoC1 (fun p hp => hp) hown1 (by assumption) (rng_small (by omega)) (rng_size (by omega)) (by rfl) (by rfl) (by decide) hx1 (fun i ys => ys.length = unK (cl word) k + unI (cl word) k i) hJ1 (fun i ys hi hy => ?ulen) ?uturn2 (fun ys hy => hy)
      case ulen =>
        rw [hy]
        exact un_size hk1 hi
      case uturn2 =>
        clear lF' lN'
        rintro i2 ys2 m2 oC2 hh2 tk3' own2 E2 hi2 hJ2 ⟨t2, hx2⟩ hk2 hoC2 FF2 NN2
        obtain ⟨c2, hc2⟩ : ∃ c, (cl word)[i2]? = some c := ⟨_, List.getElem?_eq_getElem (by omega)⟩
        have hw7' : word.length ≤ 7 := by omega
        refine wpAny_tests_one ?_
        simp only [List.cons_append, List.nil_append] at NN2
        k_steps
        · have hcd : c2 ≠ d := sgn_eq.mp (by assumption)
          refine ⟨_, _, oC2, m2, rfl, by assumption, by assumption, hoC2, hk2, ?_⟩
          show (ys2 ++ [_]).length = unK (cl word) k + unI (cl word) k (i2 + 1)
          rw [unI_diff hc2 hd hcd, List.length_append, hJ2]
          simp only [List.length_cons, List.length_nil]
          omega
        · have hcd : c2 = d := by
            by_cases q : c2 = d
            · exact q
            · have := sgn_eq.mpr q
              simp_all
          refine ⟨_, _, ys2, oC2, m2, rfl, by assumption, by assumption, hoC2, hk2, ?_⟩
          show ys2.length = unK (cl word) k + unI (cl word) k (i2 + 1)
          rw [unI_same hc2 hd hcd, hJ2]
    case udone =>
      clear lF' lN'
      intro g9 D9 ys9 hy9 hlt9
      unfold FinEJ
      intro h9 tk9 FF9 NN9 hlt9'
      have hle9 := unK_le (cl word) 7 (by omega)
      have hys9 : ys9.length ≤ 1000 := by omega
      have hD9 : @LT.lt Nat _ D D9 := hlt9 (D, _) (List.mem_cons_self ..)
      clear hlt9 hlt9'
      have hP1 := pair1 hw7 hth
      have hP2 := pair2 hw7 hbc
      rw [← hy9] at hP1 hP2
      have hbS : Signs back := fun c hc => thL_lt' hwS hw7 hbc hc
      (try dsimp only)
      (try k_fold)
      k_steps
      unfold StopW
      rename (_ < 3) => hk3
      refine with_lt hk3 ?_
      intro k3 e1
      subst e1
      k_dflt (refine c88 _ _ _ _ word pl k3 _ _ _ hw7 hwS hpl hk3 _ _ _ _ _ _ _ _ _ _ _ _ _ _ _ _ _ _ (by k_asm) (by k_asm) (by k_asm) (by k_asm) (by k_asm) (by first | exact rfl | assumption) (by ktr_room) (by ktr_units) ?_)
      intro t88 h88 tk88 F88 N88
      have hM : 0 ≤ majS (cl word) := majS_nn _
      change 0 ≤ ((fallsL (cl word)).map fun (k : Nat) => (k : Int) + 1).sum at hM
      change _ = 2 * ((fallsL (cl word)).map fun (k : Nat) => (k : Int) + 1).sum - _ at hP1
      generalize ((fallsL (cl word)).map fun (k : Nat) => (k : Int) + 1).sum = S1 at hM hP1
      (try dsimp only)
      (try k_fold)
      k_steps
      unfold StopW
      try clear F88
      try clear N88
      rename Fr _ _ _ _ => lF'
      rename News _ _ _ _ => lN'
      refine comp_range2 (n := 7) (by rfl) lF' lN' (by assumption) (by decide) (by decide) (by rfl) (by rfl) (fun k ys => ∃ l, IntsAre ys l ∧ l.length = triN k ∧ l.sum = prK (cl there) k) ⟨[], .nil, rfl, rfl⟩ ?pturn1 ?pdone1
      case pturn1 =>
        clear lF' lN'
        unfold J2Turn
        rintro C1 D1 k ys1 m1 oC1 hh1 tk1' own1 E1 hk1 hown1 hCD1 hCL1 hDL1 hC01 hD01 hJ1 ⟨tk2', hx1⟩ hoC1 FF1 NN1
        have hol : (cl there).length = 7 := by rw [cl_len, ht7]
        have ho7 : there.length ≤ 7 := by omega
        obtain ⟨d, hd⟩ : ∃ d, (cl there)[k]? = some d := ⟨_, List.getElem?_eq_getElem (by omega)⟩
        simp only [List.cons_append, List.nil_append, Int.zero_add] at NN1 hx1
        k_steps
        unfold StopW
        rename Fr _ _ _ _ => lF'
        rename News _ _ _ _ => lN'
        refine in_range (n := k) (by rfl) lF' lN' hoC1 (fun p hp => hp) hown1 (by assumption) (rng_small (by omega)) (rng_size (by omega)) (by rfl) (by rfl) (by decide) hx1 (fun i ys => ∃ l, IntsAre ys l ∧ l.length = triN k + i ∧ l.sum = prK (cl there) k + prI (cl there) k i) (by simpa [prI] using hJ1) (fun i ys hi hy => ?plen1) ?pturn21 (fun ys hy => hy)
        case plen1 =>
          obtain ⟨l, hy1, hy2, _⟩ := hy
          rw [hy1.length, hy2]
          exact tri_size hk1 hi
        case pturn21 =>
          clear lF' lN'
          rintro i2 ys2 m2 oC2 hh2 tk3' own2 E2 hi2 hJ2 ⟨t2, hx2⟩ hk2 hoC2 FF2 NN2
          obtain ⟨c2, hc2⟩ : ∃ c, (cl there)[i2]? = some c := ⟨_, List.getElem?_eq_getElem (by omega)⟩
          refine wpAny_tests_nil ?_
          simp only [if_true]
          simp only [List.cons_append, List.nil_append] at NN2
          k_steps
          unfold StopW
          k_dflt (refine c21 _ _ _ _ _ _ _ _ _ _ _ _ _ _ _ _ _ _ _ _ _ _ _ _ _ _ (by k_asm) (by k_asm) (by k_asm) (by k_asm) (by k_asm) (by first | exact rfl | assumption) (by ktr_room) (by ktr_units) ?_)
          intro t2b h2b tk2b F2b N2b
          refine ⟨_, _, oC2, m2, rfl, by assumption, by assumption, hoC2, hk2, ?_⟩
          exact snocS hJ2 (by rw [prI_step hc2 hd]; omega)
      case pdone1 =>
        clear lF' lN'
        rintro g10 D10 ys10 ⟨l10, hl10, hl10n, hl10s⟩ hlt10
        unfold FinEJ
        intro h10 tk10 FF10 NN10 hlt10'
        rw [hP1] at hl10s
        have hD10 : @LT.lt Nat _ D D10 := hlt10 (D, listOf us.toArray c) (by simp only [List.mem_cons, true_or, or_true])
        have hl21 : l10.length ≤ 49 := by have := triN_le 7 (by omega); omega
        (try dsimp only)
        (try k_fold)
        k_steps
        · exact absurd hl10s (by assumption)
        unfold StopW
        rename (_ < 3) => hk3
        refine with_lt hk3 ?_
        intro k3 e1
        subst e1
        k_dflt (refine c88 _ _ _ _ back pl k3 _ _ _ hbl hbS hpl hk3 _ _ _ _ _ _ _ _ _ _ _ _ _ _ _ _ _ _ (by k_asm) (by k_asm) (by k_asm) (by k_asm) (by k_asm) (by first | exact rfl | assumption) (by ktr_room) (by ktr_units) ?_)
        intro t88 h88 tk88 F88 N88
        have hM : 0 ≤ majS (cl back) := majS_nn _
        change 0 ≤ ((fallsL (cl back)).map fun (k : Nat) => (k : Int) + 1).sum at hM
        change _ = 2 * ((fallsL (cl back)).map fun (k : Nat) => (k : Int) + 1).sum - _ at hP2
        generalize ((fallsL (cl back)).map fun (k : Nat) => (k : Int) + 1).sum = S2 at hM hP2
        (try dsimp only)
        (try k_fold)
        k_steps
        unfold StopW
        try clear F88
        try clear N88
        rename Fr _ _ _ _ => lF'
        rename News _ _ _ _ => lN'
        refine comp_range2 (n := 7) (by rfl) lF' lN' (by assumption) (by decide) (by decide) (by rfl) (by rfl) (fun k ys => ∃ l, IntsAre ys l ∧ l.length = triN k ∧ l.sum = prK (cl word) k) ⟨[], .nil, rfl, rfl⟩ ?pturn2 ?pdone2
        case pturn2 =>
          clear lF' lN'
          unfold J2Turn
          rintro C1 D1 k ys1 m1 oC1 hh1 tk1' own1 E1 hk1 hown1 hCD1 hCL1 hDL1 hC01 hD01 hJ1 ⟨tk2', hx1⟩ hoC1 FF1 NN1
          have hol : (cl word).length = 7 := by rw [cl_len, hw7]
          have ho7 : word.length ≤ 7 := by omega
          obtain ⟨d, hd⟩ : ∃ d, (cl word)[k]? = some d := ⟨_, List.getElem?_eq_getElem (by omega)⟩
          simp only [List.cons_append, List.nil_append, Int.zero_add] at NN1 hx1
          k_steps
          unfold StopW
          rename Fr _ _ _ _ => lF'
          rename News _ _ _ _ => lN'
          refine in_range (n := k) (by rfl) lF' lN' hoC1 (fun p hp => hp) hown1 (by assumption) (rng_small (by omega)) (rng_size (by omega)) (by rfl) (by rfl) (by decide) hx1 (fun i ys => ∃ l, IntsAre ys l ∧ l.length = triN k + i ∧ l.sum = prK (cl word) k + prI (cl word) k i) (by simpa [prI] using hJ1) (fun i ys hi hy => ?plen2) ?pturn22 (fun ys hy => hy)
          case plen2 =>
            obtain ⟨l, hy1, hy2, _⟩ := hy
            rw [hy1.length, hy2]
            exact tri_size hk1 hi
          case pturn22 =>
            clear lF' lN'
            rintro i2 ys2 m2 oC2 hh2 tk3' own2 E2 hi2 hJ2 ⟨t2, hx2⟩ hk2 hoC2 FF2 NN2
            obtain ⟨c2, hc2⟩ : ∃ c, (cl word)[i2]? = some c := ⟨_, List.getElem?_eq_getElem (by omega)⟩
            refine wpAny_tests_nil ?_
            simp only [if_true]
            simp only [List.cons_append, List.nil_append] at NN2
            k_steps
            unfold StopW
            k_dflt (refine c21 _ _ _ _ _ _ _ _ _ _ _ _ _ _ _ _ _ _ _ _ _ _ _ _ _ _ (by k_asm) (by k_asm) (by k_asm) (by k_asm) (by k_asm) (by first | exact rfl | assumption) (by ktr_room) (by ktr_units) ?_)
            intro t2b h2b tk2b F2b N2b
            refine ⟨_, _, oC2, m2, rfl, by assumption, by assumption, hoC2, hk2, ?_⟩
            exact snocS hJ2 (by rw [prI_step hc2 hd]; omega)
        case pdone2 =>
          clear lF' lN'
          rintro g10 D10 ys10 ⟨l10, hl10, hl10n, hl10s⟩ hlt10
          unfold FinEJ
          intro h10 tk10 FF10 NN10 hlt10'
          rw [hP2] at hl10s
          have hD10 : @LT.lt Nat _ D D10 := hlt10 (D, listOf us.toArray c) (by simp only [List.mem_cons, true_or, or_true])
          have hl21 : l10.length ≤ 49 := by have := triN_le 7 (by omega); omega
          (try dsimp only)
          (try k_fold)
          k_steps
          · exact absurd hl10s (by assumption)
          unfold StopW
          have htS : Signs there := by
            intro c hc
            rw [hth] at hc
            exact thL_lt hwS hc
          k_dflt (refine c98 _ _ _ _ word there _ _ hw7 ht7 hwS htS (kept_law hw7 hwS hth) _ _ _ _ _ _ _ _ _ _ _ _ _ _ _ _ _ _ (by k_asm) (by k_asm) (by k_asm) (by k_asm) (by k_asm) (by first | exact rfl | assumption) (by ktr_room) (by ktr_units) ?_)
          intro t98 h98 tk98 F98 N98
          (try dsimp only)
          (try k_fold)
          k_steps
          k_steps
          exact end_true (by assumption) hb72 rfl
end Mine
end
theorem PySem.Challenge.cw_wn0054_01_holds : PySem.Challenge.rw_wn0054_01.Holds := by
  exact Mine.law_holds
