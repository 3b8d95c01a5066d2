import PyProof.Rows.All
import Wide.All
import OpenK.AllK
import Wide.FinOn
import PySem.Challenge.RW_wo0062_01
open PySem PySem.W PyProof.Rows
set_option Elab.async false
set_option maxRecDepth 100000
set_option maxHeartbeats 8000000
namespace Mine
open_top hd for PySem.Challenge.rw_wo0062_01
end Mine
open PySem PySem.W PySem.Spec PySem.Calls PyProof.Rows
namespace Mine
abbrev PW : Program := PySem.Challenge.pw_wo0062_01
def Ext (h h' : Heap) : Prop := ∀ b o, h.get? b = some o → h'.get? b = some o
theorem Ext.refl (h : Heap) : Ext h h := fun _ _ e => e
theorem Ext.trans {a b c : Heap} (x : Ext a b) (y : Ext b c) : Ext a c := fun _ _ e => y _ _ (x _ _ e)
theorem frExt {h₀ h h' : Heap} {L : Addr} {m : Str → Option Value} (F : Fr h₀ L h m) (x : Ext h h') : Fr h₀ L h' m := ⟨F.ns.keeps x, fun b o e => x _ _ (F.keep b o e), F.above⟩
theorem newsExt {h₀ h h' : Heap} {L : Addr} {news : List (Addr × Obj)} (N : News h₀ L h news) (x : Ext h h') : News h₀ L h' news := fun p hp => ⟨x _ _ (N p hp).1, (N p hp).2⟩

structure Here (w : World) (p : Program) (loose : List Str) (mg mb : Str → Option Value) (h : Heap) : Prop where
  X : (hd.heap_39 w.params).In h
  T : TopRead p loose mg mb h
theorem Here.ext {w : World} {p : Program} {loose : List Str} {mg mb : Str → Option Value} {h h' : Heap} (H : Here w p loose mg mb h) (x : Ext h h') : Here w p loose mg mb h' := ⟨H.X.keeps x, H.T.keeps x⟩

/-- what a pure call leaves: the heap kept, and a word of the value -/
abbrev Ret (s : Shared) (Q : Value → Shared → Prop) (P : Value → Heap → Prop) : Prop :=
  ∀ v h' tk', Ext s.heap h' → P v h' → Q v { s with heap := h', toks := tk' }

section
variable {prog : Program} {w : World} {A : Around} {s : Shared} {K : Frag} {E Q : Value → Shared → Prop} {name qual : Str} {params : Arguments} {body : List Stmt} {scope : Scope} {dV kV doc pm cdv ct oc : Value} {an od : Option Addr} {osl : Array (Option Value)} {f : Addr} {pos : List Value} {kw : List (Str × Value)} {binds : List (Str × Value)} {mm : Str → Option Value}
theorem enterP {p : Program} {loose : List Str} {mg mb : Str → Option Value} (X₀ : K.In s.heap) (T : TopRead p loose mg mb s.heap)
    (ho : K.lookup f = some ⟨oc, od, .func (fnOf name qual params body scope dV kV doc pm an cdv ct), osl⟩) (hcd : codeIn K cdv qual = true) (hroom : A.depth < recursionLimit)
    (hbind : BindsTo s (fnOf name qual params body scope dV kV doc pm an cdv ct) ⟨pos, kw⟩ binds) (hloc : ∀ y ∈ binds, scope.names.lookup y.1 = some .local)
    (hmm : (fun y => binds.reverse.lookup y) = mm)
    (h : ∀ L' h₁, Fr s.heap L' h₁ mm → News s.heap L' h₁ [] → K.In s.heap → TopRead p loose mg mb s.heap →
      wpAny (model prog w) (A.deeper (envOf qual scope L' f cdv)) (execs body (envOf qual scope L' f cdv))
        (fun fl s' => Q (match fl with | .ret v => v | _ => .none) s') (fun _ _ => False) { s with heap := h₁, toks := s.toks + binds.length })
    (hco : scope.isCoroutine = false) (hgen : scope.isGenerator = false) (hk : scope.kind = .function)
    (hcell : ∀ x ∈ scope.names, x.2 ≠ .cell) : wpAny (model prog w) A (call (.ref f) pos kw) Q E s := by
  refine wpAny_call (codeAny_call_def (fd := fnOf name qual params body scope dV kV doc pm an cdv ct) (body := body) (binds := binds) hroom (X₀ _ _ ho) rfl T.nolimit (codeRec_of X₀ hcd) rfl hbind hcell hloc (fun h₁ hns hk₁ => ?_) hco hgen hk)
  subst hmm
  refine wpAny_mono (h s.heap.objs.size h₁ ⟨hns, hk₁, Nat.le_refl _⟩ News.nil X₀ T) (fun fl s' hl => hl) fun _ _ y => y.elim
end
local macro_rules | `(tactic| walk_at "STEPS") => `(tactic| repeat' (first | (k_unfold; (try dsimp only)) | walk1 | (dsimp only; walk1)))
local macro_rules | `(tactic| walk_at "DONE") => `(tactic| ((try k_unfold); (try dsimp only); (with_reducible rename Fr _ _ _ _ => kF); refine (by assumption : Ret _ _ _) _ _ _ kF.keep ?_))
local macro_rules | `(tactic| walk_at "ROOM") => `(tactic| ((try dsimp only [Around.deeper, Around.in1]); omega))
local macro_rules | `(tactic| walk_at "HERE") => `(tactic| first | assumption | exact Here.ext (by assumption) (by assumption : Fr _ _ _ _).keep)
local macro_rules | `(tactic| walk_at "NOWALK") => `(tactic| first
    | (with_reducible show Exists _)
    | (with_reducible show wpAny _ _ (exec (Stmt.While _ _ _ _) _) _ _ _)
    | (with_reducible show wpAny _ _ (exec (Stmt.For _ _ _ _ _) _) _ _ _)
    | (with_reducible show wpAny _ _ (call (Value.ref _) _ _) _ _ _)
    | (with_reducible show wpAny _ _ (subscriptTail _ _ (Value.bytes _ _) _) _ _ _)
    | (with_reducible show wpAny _ _ (binaryOp _ (Value.bytes _ _) _) _ _ _)
    | (with_reducible show wpAny _ _ (eval (Expr.ListComp _ _ _ _) _) _ _ _)
    | (with_reducible show wpAny _ _ (exec (Stmt.Assign _ (Expr.ListComp _ _ _ _) _) _) _ _ _))
local macro_rules | `(tactic| walk_at "STEPSW") => `(tactic| repeat' (first | (k_unfold; (try dsimp only)) | ((fail_if_success (walk_at "NOWALK")); first | walk1 | (dsimp only; walk1))))
/-- what stands around a call: no exception in hand -/
abbrev au (dp un : Nat) (fr : Option (List Env)) (gd : Option (List Code)) : Around := { handled := none, depth := dp, frames := fr, guards := gd, units := un }
/-- a frame's names: those written, the others as they are -/
def loc (l : List (Str × Value)) (u : Str → Option Value) : Str → Option Value := fun y => match l.lookup y with | some v => some v | none => u y
def AllLoc (m : Str → Option Value) : List (Str × Value) → Prop
  | [] => True
  | (x, v) :: r => m x = some v ∧ AllLoc m r
theorem AllLoc.at {m : Str → Option Value} : ∀ {l : List (Str × Value)} {x : Str} {v : Value}, AllLoc m l → l.lookup x = some v → m x = some v
  | [], _, _, _, e => by cases e
  | (y, u) :: r, x, v, h, e => by
    rw [List.lookup_cons] at e
    cases q : (x == y) with
    | true => rw [q] at e; cases e; rw [eq_of_beq q]; exact h.1
    | false => rw [q] at e; exact h.2.at e
theorem fr_loc {h₀ h : Heap} {L : Addr} {m : Str → Option Value} (F : Fr h₀ L h m) (l : List (Str × Value)) (a : AllLoc m l) : Fr h₀ L h (loc l m) := by
  have e : loc l m = m := by
    funext y
    unfold loc
    cases q : l.lookup y with
    | none => rfl
    | some v => exact (a.at q).symm
  rw [e]; exact F
/-- the 16-letter figures of n, k at most -/
def apF : Nat → Nat → List Nat
  | 0, _ => []
  | k + 1, n => if n = 0 then [] else apF k (n / 16) ++ [65 + n % 16]
def byt (l : List Nat) : Array UInt8 := (l.map Nat.toUInt8).toArray
theorem apF_zero : ∀ k, apF k 0 = []
  | 0 => rfl
  | _ + 1 => rfl
theorem apF_pos {k n : Nat} (h : n ≠ 0) : apF (k + 1) n = apF k (n / 16) ++ [65 + n % 16] := if_neg h
theorem byt_cons (a : Nat) (l : List Nat) : byt (a :: l) = #[a.toUInt8] ++ byt l := by simp [byt]
section
variable {prog : Program} {w : World} {A : Around} {s : Shared} {env : Env} {h₀ : Heap}
theorem while_my {E : Value → Shared → Prop} {test : Expr} {body : List Stmt} {pos : Pos} {Q : Flow → Shared → Prop} (I : Nat → Shared → Prop)
    (turn : ∀ n s, I n s → wpAny (model prog w) A (isTrue test env (eval test env)) (fun b s₂ =>
        if b then wpAny (model prog w) A (execs body env) (fun f s₃ => match f with
            | .next | .cont => ∃ m, m < n ∧ I m s₃
            | .brk => Q .next s₃
            | .ret v => Q (.ret v) s₃) (fun _ _ => False) s₂
        else Q .next s₂) (fun _ _ => False) s)
    (n : Nat) (h : I n s) : wpAny (model prog w) A (exec (.While test body [] pos) env) Q E s := by
  refine wpAny_While (codeAny_whileLoop I (fun n s hI => ?_) n h)
  refine wpAny_mono (turn n s hI) (fun b s₂ h₂ => ?_) fun _ _ e => e.elim
  cases b with
  | false =>
    simp only [Bool.false_eq_true, if_false] at h₂ ⊢
    exact wpAny_execs_nil h₂
  | true =>
    simp only [if_true] at h₂ ⊢
    refine wpAny_mono h₂ (fun f s₃ h₃ => ?_) fun _ _ e => e.elim
    cases f <;> exact h₃

/-- the target's own tuple is let go without a trace -/
def GoOk (prog : Program) (w : World) (A : Around) (target : Expr) (I : Addr) (P : Nat → Value → Prop) (St : Nat → Heap → Prop) : Prop :=
  ∀ i v (s : Shared) (Q : Unit → Shared → Prop) (E : Value → Shared → Prop), St (i + 1) s.heap → P i v → Q () s → wpAny (model prog w) A (letOwnedTupleGo target (.ref I) v) Q E s
theorem GoOk.name {target : Expr} {I : Addr} {P : Nat → Value → Prop} {St : Nat → Heap → Prop} (h : ∀ v, letOwnedTupleGo target (.ref I) v = pure ()) : GoOk prog w A target I P St :=
  fun i v s Q E _ _ hq => by rw [h v]; exact wpAny_pure hq
theorem GoOk.list {elts : List Expr} {x1} {pos : Pos} {I l : Addr} {P : Nat → Value → Prop} {St : Nat → Heap → Prop} (h1 : ∀ i h, St i h → h.IsListIter I l i) (h2 : ∀ i v, P i v → ∃ T, v = .ref T) : GoOk prog w A (.Tuple elts x1 pos) I P St :=
  fun i v s Q E st hP hq => by
    obtain ⟨T, rfl⟩ := h2 i v hP
    exact wpAny_letOwnedTupleGo_listiter (h1 _ _ st) hq

/-- an iterator's turns, the pair that it gives let go, as the loop's target asks -/
structure WalksH (prog : Program) (w : World) (A : Around) (target : Expr) (I : Addr) (fp wr : List Addr) (n : Nat) (P : Nat → Value → Heap → Prop) (St : Nat → Heap → Prop) : Prop where
  sub : ∀ b ∈ wr, b ∈ fp
  frame : ∀ i h h', St i h → (∀ b ∈ fp, ∀ o, h.get? b = some o → h'.get? b = some o) → St i h'
  item : ∀ i (s : Shared) (Q : Value → Shared → Prop) (Q0 : Shared → Prop) (E1 E2 : Value → Shared → Prop), i < n → St i s.heap →
    (∀ v h' tk, P i v h' → St (i + 1) h' → (∀ b o, b ∉ wr → s.heap.get? b = some o → h'.get? b = some o) → Q v { s with heap := h', toks := tk }) →
    wpAny (model prog w) A (pyNext (.ref I)) (fun r s₁ => match r with | none => Q0 s₁ | some v => wpAny (model prog w) A (letOwnedTupleGo target (.ref I) v) (fun _ s₂ => Q v s₂) E2 s₁) E1 s
  done : ∀ (s : Shared) (Q : Option Value → Shared → Prop) (E : Value → Shared → Prop), St n s.heap →
    (∀ h' tk, (∀ b o, b ∉ wr → s.heap.get? b = some o → h'.get? b = some o) → Q none { s with heap := h', toks := tk }) → wpAny (model prog w) A (pyNext (.ref I)) Q E s
  self : ∀ i (s : Shared) (Q : Value → Shared → Prop) (E : Value → Shared → Prop), St i s.heap → Q (.ref I) s → wpAny (model prog w) A (pyIter (.ref I)) Q E s
theorem WalksH.of {target : Expr} {I : Addr} {fp wr : List Addr} {n : Nat} {P : Nat → Value → Prop} {St : Nat → Heap → Prop} (W : Walks prog w A I fp wr n P St) (g : GoOk prog w A target I P St) : WalksH prog w A target I fp wr n (fun i v _ => P i v) St where
  sub := W.sub
  frame := W.frame
  item := fun i s Q Q0 E1 E2 hi st h => W.item i s _ E1 hi st fun v h' tk hP st' k => g i v _ _ E2 st' hP (h v h' tk hP st' k)
  done := W.done
  self := W.self
theorem WalksH.ofU {elts : List Expr} {x1} {pos : Pos} {I : Addr} {fp wr : List Addr} {n : Nat} {Pt : Nat → Array Value → Prop} {St : Nat → Heap → Prop} {Mid : Nat → Addr → Heap → Prop} (W : WalksU prog w A I fp wr n Pt St Mid) :
    WalksH prog w A (.Tuple elts x1 pos) I fp wr n (fun i v h => ∃ T vals, v = .ref T ∧ Pt i vals ∧ h.IsTuple T vals) St where
  sub := W.sub
  frame := W.frame
  item := fun i s Q Q0 E1 E2 hi st h => W.item i s _ E1 hi st fun T vals h' tk hP hT hm hk => W.go elts x1 pos i T _ _ E2 hm fun h'' st'' hk'' =>
    h (.ref T) h'' tk ⟨T, vals, rfl, hP, let ⟨o, e, r⟩ := hT; ⟨o, hk'' _ _ (W.apart _ _ _ hm) e, r⟩⟩ st'' fun b o hb e => hk'' b o hb (hk b o hb e)
  done := W.done
  self := W.self

def LoopG (prog : Program) (w : World) (A : Around) (h₀ : Heap) (env : Env) (target : Expr) (body orelse : List Stmt) (Q : Flow → Shared → Prop) (E : Value → Shared → Prop) (it : Value) (s₂ : Shared) : Prop :=
  ∃ (I : Addr) (fp wr : List Addr) (n : Nat) (P : Nat → Value → Heap → Prop) (St : Nat → Heap → Prop) (m : Str → Option Value) (news : List (Addr × Obj)) (J : Nat → (Str → Option Value) → List (Addr × Obj) → Prop),
    it = .ref I ∧ WalksH prog w A target I fp wr n P St ∧ (∀ i h, St i h → ∀ b ∈ wr, ∃ o, h.get? b = some o) ∧ env.locals ∉ wr ∧ (∀ b ∈ wr, h₀.get? b = none) ∧ (∀ p ∈ news, p.1 ∉ wr) ∧
    (∀ b ∈ fp, b ∈ wr ∨ (∃ o, h₀.get? b = some o) ∨ (∃ o, ∀ i m nx, J i m nx → (b, o) ∈ nx)) ∧
    St 0 s₂.heap ∧ Fr h₀ env.locals s₂.heap m ∧ News h₀ env.locals s₂.heap news ∧ J 0 m news ∧
    (∀ i v m₁ nx h tk own, i < n → P i v h → J i m₁ nx → OwnOff own (nx.map (·.1)) → Fr h₀ env.locals h m₁ → News h₀ env.locals h (nx ++ own) →
      wpAny (model prog w) A (assign target env v) (fun _ s₃ => wpAny (model prog w) A (execs body env) (fun f s₄ => match f with
        | .ret v => Q (.ret v) s₄
        | .brk => Q .next s₄
        | _ => ∃ h' tk' m' nx', s₄ = { s₂ with heap := h', toks := tk' } ∧ Fr h₀ env.locals h' m' ∧ News h₀ env.locals h' (nx' ++ own) ∧ OwnOff own (nx'.map (·.1)) ∧ J (i + 1) m' nx') (fun _ _ => False) s₃) (fun _ _ => False) { s₂ with heap := h, toks := tk }) ∧
    ∀ h' tk m' nx, Fr h₀ env.locals h' m' → News h₀ env.locals h' nx → J n m' nx → wpAny (model prog w) A (execs orelse env) Q E { s₂ with heap := h', toks := tk }

theorem forG {E : Value → Shared → Prop} {Q : Flow → Shared → Prop} {target : Expr} {pos : Pos} {iter : Expr} {body orelse : List Stmt} (h₀ : Heap)
    (h : wpAny (model prog w) A (eval iter env) (fun xv s₁ => wpAny (model prog w) A (pyIter xv) (fun it s₂ => LoopG prog w A h₀ env target body orelse Q (fun _ _ => False) it s₂) E s₁) E s)
    (hs : ∀ x, foldedSetIterable iter env x = pure x := by intro _; rfl) :
    wpAny (model prog w) A (exec (.For target iter body orelse pos) env) Q E s := by
  refine wpAny_For (wpAny_mono h (fun xv s₁ h₁ => wpAny_mono h₁ (fun it s₂ h₂ => ?_) fun _ _ e => e) fun _ _ e => e) hs
  obtain ⟨I, fp, wr, n, P, St, m, news, J, rfl, W, hob, hLw, hwr, hnw, hfp, hst, F, N, h0, step, hQ⟩ := h₂
  have old : ∀ b o, h₀.get? b = some o → b ∉ wr := fun b o e hb => by rw [hwr b hb] at e; cases e
  refine codeAny_forLoop_any
    (fun k s' => ∃ h' tk m' nx i, s' = { s₂ with heap := h', toks := tk } ∧ St i h' ∧ Fr h₀ env.locals h' m' ∧ News h₀ env.locals h' nx ∧ (∀ p ∈ nx, p.1 ∉ wr) ∧ J i m' nx ∧ i ≤ n ∧ k = n + 1 - i) ?_ (n + 1)
    ⟨s₂.heap, s₂.toks, m, news, 0, rfl, hst, F, N, hnw, h0, Nat.zero_le _, rfl⟩
  rintro k s' ⟨h', tk, m', nx, i, rfl, hst', F', N', hnw', hJ, hi, rfl⟩
  have next : ∀ h₁ : Heap, (∀ b o, b ∉ wr → h'.get? b = some o → h₁.get? b = some o) → Fr h₀ env.locals h₁ m' ∧ News h₀ env.locals h₁ nx := fun h₁ hk₁ =>
    ⟨⟨F'.ns.at' fun o e => hk₁ _ o hLw e, fun b o e => hk₁ b o (old b o e) (F'.keep b o e), F'.above⟩, fun p hp => ⟨hk₁ _ _ (hnw' p hp) (N' p hp).1, (N' p hp).2⟩⟩
  by_cases hlt : i < n
  · refine W.item i _ _ _ _ _ hlt hst' fun v h₁ tk₁ hP hst₁ hk₁ => ?_
    obtain ⟨F₁, N₁⟩ := next h₁ hk₁
    have Nown : News h₀ env.locals h₁ (ownOf h₀ wr h₁) := news_ownOf hLw
    have hoff : OwnOff (ownOf h₀ wr h₁) (nx.map (·.1)) := by
      intro p hp b hb e
      obtain ⟨q, hq, rfl⟩ := List.mem_map.mp hb
      exact hnw' q hq (e ▸ ownOf_sub p hp)
    have NN : News h₀ env.locals h₁ (nx ++ ownOf h₀ wr h₁) := fun p hp => (List.mem_append.mp hp).elim (N₁ p) (Nown p)
    refine wpAny_mono (step i v m' nx h₁ tk₁ (ownOf h₀ wr h₁) hlt hP hJ hoff F₁ NN) (fun _ s₃ h₃ => wpAny_mono h₃ (fun f s₄ h₄ => ?_) fun _ _ e => e.elim) fun _ _ e => e.elim
    have fin : (∃ h' tk' m' nx', s₄ = { s₂ with heap := h', toks := tk' } ∧ Fr h₀ env.locals h' m' ∧ News h₀ env.locals h' (nx' ++ ownOf h₀ wr h₁) ∧ OwnOff (ownOf h₀ wr h₁) (nx'.map (·.1)) ∧ J (i + 1) m' nx') →
        ∃ mm, mm < n + 1 - i ∧ ∃ h' tk m' nx i, s₄ = { s₂ with heap := h', toks := tk } ∧ St i h' ∧ Fr h₀ env.locals h' m' ∧ News h₀ env.locals h' nx ∧ (∀ p ∈ nx, p.1 ∉ wr) ∧ J i m' nx ∧ i ≤ n ∧ mm = n + 1 - i := by
      rintro ⟨h₄', tk₄, m₄, nx₄, rfl, F₄, N₄, ho₄, hJ₄⟩
      refine ⟨n + 1 - (i + 1), by omega, h₄', tk₄, m₄, nx₄, i + 1, rfl, ?_, F₄, fun p hp => N₄ p (List.mem_append.mpr (.inl hp)), fun p hp hb => ?_, hJ₄, hlt, rfl⟩
      · refine W.frame _ _ _ hst₁ fun b hb o e => ?_
        rcases hfp b hb with hw | ⟨o', ho'⟩ | ⟨o', ho'⟩
        · exact (N₄ _ (List.mem_append.mpr (.inr (mem_ownOf hw (hwr b hw) e)))).1
        · have : o' = o := by have := F₁.keep b o' ho'; rw [e] at this; exact (Option.some.inj this).symm
          exact this ▸ F₄.keep b o' ho'
        · have e1 : o' = o := by have := (N₁ _ (ho' _ _ _ hJ)).1; rw [e] at this; exact (Option.some.inj this).symm
          exact e1 ▸ (N₄ _ (List.mem_append.mpr (.inl (ho' _ _ _ hJ₄)))).1
      · obtain ⟨o, ho⟩ := hob _ _ hst₁ _ hb
        exact ho₄ _ (mem_ownOf hb (hwr _ hb) ho) p.1 (List.mem_map.mpr ⟨p, hp, rfl⟩) rfl
    cases f with
    | ret v => exact h₄
    | brk => exact h₄
    | next => exact fin h₄
    | cont => exact fin h₄
  · have hin : i = n := by omega
    subst hin
    refine W.done _ _ _ hst' fun h₁ tk₁ hk₁ => ?_
    obtain ⟨F₁, N₁⟩ := next h₁ hk₁
    exact wpAny_mono (hQ h₁ tk₁ m' nx F₁ N₁ hJ) (fun _ _ q => q) fun _ _ e => e.elim
end
section
variable {w : World} {p : Program} {loose : List Str} {mg mb : Str → Option Value} {dp un : Nat} {fr : Option (List Env)} {gd : Option (List Code)} {s : Shared} {Q E : Value → Shared → Prop}
variable {x y : Int} {tx ty : Tok}
theorem add_spec (H : Here w p loose mg mb s.heap) (hd : dp + 20 < 1000)
    (ret : Ret s Q (fun v _ => ∃ t, v = .int (x + y) t)) : wpAny (model PW w) (au dp un fr gd) (call (.ref 59) [.int x tx, .int y ty]) Q E s := by
  have hrl : recursionLimit = 1000 := rfl
  k_dflt (refine' enterP (binds := [((PySem.Str.ofString "a"), .int x tx), ((PySem.Str.ofString "b"), .int y ty)]) (mm := fun y_ => List.lookup y_ [((PySem.Str.ofString "b"), .int y ty), ((PySem.Str.ofString "a"), .int x tx)]) (Here.X (by assumption)) (Here.T (by assumption)) ?k6 ?k7 ?k8 ?k9 ?kB ?hm ?_ ?c2 ?c3 ?c4 ?c5; (case k6 => k_is); (case k7 => k_is); (case k8 => (dsimp only; omega)); (case k9 => exact BindsTo.of_eq rfl); (case kB => exact locs rfl); (case hm => exact rfl); (case c5 => decide); (case c2 => exact rfl); (case c3 => exact rfl); (case c4 => exact rfl))
  intro L' h' F' N' X' T'
  k_fold
  walk_at "STEPS"
  walk_at "DONE"
  exact ⟨_, rfl⟩
theorem sub_spec (H : Here w p loose mg mb s.heap) (hd : dp + 20 < 1000)
    (ret : Ret s Q (fun v _ => ∃ t, v = .int (x - y) t)) : wpAny (model PW w) (au dp un fr gd) (call (.ref 94) [.int x tx, .int y ty]) Q E s := by
  have hrl : recursionLimit = 1000 := rfl
  k_dflt (refine' enterP (binds := [((PySem.Str.ofString "a"), .int x tx), ((PySem.Str.ofString "b"), .int y ty)]) (mm := fun y_ => List.lookup y_ [((PySem.Str.ofString "b"), .int y ty), ((PySem.Str.ofString "a"), .int x tx)]) (Here.X (by assumption)) (Here.T (by assumption)) ?k6 ?k7 ?k8 ?k9 ?kB ?hm ?_ ?c2 ?c3 ?c4 ?c5; (case k6 => k_is); (case k7 => k_is); (case k8 => (dsimp only; omega)); (case k9 => exact BindsTo.of_eq rfl); (case kB => exact locs rfl); (case hm => exact rfl); (case c5 => decide); (case c2 => exact rfl); (case c3 => exact rfl); (case c4 => exact rfl))
  intro L' h' F' N' X' T'
  k_fold
  walk_at "STEPS"
  walk_at "DONE"
  exact ⟨_, rfl⟩
theorem and_spec (H : Here w p loose mg mb s.heap) (hd : dp + 20 < 1000)
    (ret : Ret s Q (fun v _ => ∃ t, v = .int (Builtin.bitAnd x y) t)) : wpAny (model PW w) (au dp un fr gd) (call (.ref 66) [.int x tx, .int y ty]) Q E s := by
  have hrl : recursionLimit = 1000 := rfl
  k_dflt (refine' enterP (binds := [((PySem.Str.ofString "a"), .int x tx), ((PySem.Str.ofString "b"), .int y ty)]) (mm := fun y_ => List.lookup y_ [((PySem.Str.ofString "b"), .int y ty), ((PySem.Str.ofString "a"), .int x tx)]) (Here.X (by assumption)) (Here.T (by assumption)) ?k6 ?k7 ?k8 ?k9 ?kB ?hm ?_ ?c2 ?c3 ?c4 ?c5; (case k6 => k_is); (case k7 => k_is); (case k8 => (dsimp only; omega)); (case k9 => exact BindsTo.of_eq rfl); (case kB => exact locs rfl); (case hm => exact rfl); (case c5 => decide); (case c2 => exact rfl); (case c3 => exact rfl); (case c4 => exact rfl))
  intro L' h' F' N' X' T'
  k_fold
  walk_at "STEPS"
  walk_at "DONE"
  exact ⟨_, rfl⟩
theorem or_spec (H : Here w p loose mg mb s.heap) (hd : dp + 20 < 1000)
    (ret : Ret s Q (fun v _ => ∃ t, v = .int (Builtin.bitOr x y) t)) : wpAny (model PW w) (au dp un fr gd) (call (.ref 80) [.int x tx, .int y ty]) Q E s := by
  have hrl : recursionLimit = 1000 := rfl
  k_dflt (refine' enterP (binds := [((PySem.Str.ofString "a"), .int x tx), ((PySem.Str.ofString "b"), .int y ty)]) (mm := fun y_ => List.lookup y_ [((PySem.Str.ofString "b"), .int y ty), ((PySem.Str.ofString "a"), .int x tx)]) (Here.X (by assumption)) (Here.T (by assumption)) ?k6 ?k7 ?k8 ?k9 ?kB ?hm ?_ ?c2 ?c3 ?c4 ?c5; (case k6 => k_is); (case k7 => k_is); (case k8 => (dsimp only; omega)); (case k9 => exact BindsTo.of_eq rfl); (case kB => exact locs rfl); (case hm => exact rfl); (case c5 => decide); (case c2 => exact rfl); (case c3 => exact rfl); (case c4 => exact rfl))
  intro L' h' F' N' X' T'
  k_fold
  walk_at "STEPS"
  walk_at "DONE"
  exact ⟨_, rfl⟩
theorem lshift_spec (H : Here w p loose mg mb s.heap) (hd : dp + 20 < 1000) (hn : 0 ≤ y) (hn2 : y ≤ 1000) (ha : x.natAbs < 2 ^ 64)
    (ret : Ret s Q (fun v _ => ∃ t, v = .int (x * 2 ^ y.toNat) t)) : wpAny (model PW w) (au dp un fr gd) (call (.ref 73) [.int x tx, .int y ty]) Q E s := by
  have hrl : recursionLimit = 1000 := rfl
  k_dflt (refine' enterP (binds := [((PySem.Str.ofString "a"), .int x tx), ((PySem.Str.ofString "b"), .int y ty)]) (mm := fun y_ => List.lookup y_ [((PySem.Str.ofString "b"), .int y ty), ((PySem.Str.ofString "a"), .int x tx)]) (Here.X (by assumption)) (Here.T (by assumption)) ?k6 ?k7 ?k8 ?k9 ?kB ?hm ?_ ?c2 ?c3 ?c4 ?c5; (case k6 => k_is); (case k7 => k_is); (case k8 => (dsimp only; omega)); (case k9 => exact BindsTo.of_eq rfl); (case kB => exact locs rfl); (case hm => exact rfl); (case c5 => decide); (case c2 => exact rfl); (case c3 => exact rfl); (case c4 => exact rfl))
  intro L' h' F' N' X' T'
  k_fold
  walk_at "STEPS"
  walk_at "DONE"
  exact ⟨_, rfl⟩
theorem rshift_spec (H : Here w p loose mg mb s.heap) (hd : dp + 20 < 1000) (hn : 0 ≤ y)
    (ret : Ret s Q (fun v _ => ∃ t, v = .int (x.fdiv (2 ^ y.toNat)) t)) : wpAny (model PW w) (au dp un fr gd) (call (.ref 87) [.int x tx, .int y ty]) Q E s := by
  have hrl : recursionLimit = 1000 := rfl
  k_dflt (refine' enterP (binds := [((PySem.Str.ofString "a"), .int x tx), ((PySem.Str.ofString "b"), .int y ty)]) (mm := fun y_ => List.lookup y_ [((PySem.Str.ofString "b"), .int y ty), ((PySem.Str.ofString "a"), .int x tx)]) (Here.X (by assumption)) (Here.T (by assumption)) ?k6 ?k7 ?k8 ?k9 ?kB ?hm ?_ ?c2 ?c3 ?c4 ?c5; (case k6 => k_is); (case k7 => k_is); (case k8 => (dsimp only; omega)); (case k9 => exact BindsTo.of_eq rfl); (case kB => exact locs rfl); (case hm => exact rfl); (case c5 => decide); (case c2 => exact rfl); (case c3 => exact rfl); (case c4 => exact rfl))
  intro L' h' F' N' X' T'
  k_fold
  iterate 6 walk1
  refine rshift_int hn ?_
  walk_at "DONE"
  exact ⟨_, rfl⟩
end
section
variable {prog : Program} {w : World} {A : Around} {s : Shared} {env : Env} {h₀ : Heap} {E : Value → Shared → Prop}
def AtN (h : Heap) (bad : Addr → Prop) (y : Value) : Option Obj → Prop
  | none => True
  | some o => ∃ a, y = .ref a ∧ h.get? a = some o ∧ ¬ bad a
theorem AtN.keeps {h h' : Heap} {bad bad' : Addr → Prop} {y : Value} {oo : Option Obj} (x : AtN h bad y oo) (k : ∀ a o, ¬ bad a → h.get? a = some o → h'.get? a = some o) (kb : ∀ a, bad' a → bad a) : AtN h' bad' y oo := by
  cases oo with
  | none => trivial
  | some o => obtain ⟨a, e, g, n⟩ := x; exact ⟨a, e, k a o n g, fun q => n (kb a q)⟩
theorem hide_none {h : Heap} {l : List Addr} {b : Addr} (e : (hideAll h l).get? b = none) (n : b ∉ l) : h.get? b = none := by
  cases q : h.get? b with
  | none => rfl
  | some o => rw [hideAll_get l q n] at e; cases e
theorem fresh_none {h : Heap} {a : Addr} (ha : h.objs.size ≤ a) : h.get? a = none := by
  cases e : h.get? a with
  | none => rfl
  | some o' => exact absurd (Heap.lt_size e) (Nat.not_lt.mpr ha)

theorem compLoop_go {elt target iter : Expr} {scope : Scope} {pos : Pos} {it acc : Value} {env : Env} {R : Result → Shared → Prop} (I : Nat → Shared → Prop)
    (turn : ∀ n s, I n s → wpAny (model prog w) A (pyNext it) (fun r s₁ => match r with
      | none => R (.ok .next) s₁
      | some v => wpAny (model prog w) A (letOwnedTupleGo target it v) (fun _ s₂ => wpAny (model prog w) A (assign target env v) (fun _ s₃ =>
          wpAny (model prog w) A (eval elt env) (fun x s₄ => wpAny (model prog w) A (call (.builtin "list.append") [acc, x]) (fun _ s₅ => ∃ m, m < n ∧ I m s₅) (fun _ _ => False) s₄) (fun _ _ => False) s₃) (fun _ _ => False) s₂) (fun _ _ => False) s₁) (fun _ _ => False) s)
    (n : Nat) (h : I n s) : codeAny (model prog w) A (.compLoop (.ListComp elt [⟨target, iter, [], 0⟩] scope pos) 0 it acc env) R s := by
  refine codeAny_loop rfl I (fun n s hI => ?_) n h
  show wpAny _ A ((compTurn (.ListComp elt [⟨target, iter, [], 0⟩] scope pos) 0 it acc env).onRaise (fun x => do noteFrame x env; theTreesLotGoes x)) _ _ s
  refine wpAny_noted ?_
  rw [compTurn_list1]
  refine wpAny_bind (wpAny_standAt (wpAny_bind (wpAny_mono (turn n s hI) (fun r s₁ h₁ => ?_) fun _ _ f => f.elim)))
  cases r with
  | none => exact wpAny_pure h₁
  | some v =>
    refine wpAny_bind (wpAny_mono h₁ (fun _ s₂ h₂ => ?_) fun _ _ f => f.elim)
    refine wpAny_bind (wpAny_mono h₂ (fun _ s₃ h₃ => ?_) fun _ _ f => f.elim)
    exact wpAny_bind (wpAny_bind (wpAny_mono h₃ (fun x s₄ h₄ => wpAny_bind (wpAny_mono h₄ (fun _ s₅ h₅ => wpAny_pure (wpAny_pure ⟨rfl, h₅⟩)) fun _ _ f => f.elim)) fun _ _ f => f.elim))

theorem comp_blockG {elt iter target : Expr} {scope : Scope} {cl : List (Str × Addr)} {pos : Pos} {s₂ : Shared} {I : Addr} {fp wr : List Addr} {n : Nat} {P : Nat → Value → Heap → Prop} {St : Nat → Heap → Prop} (G : Nat → Value → Option Obj → Prop) {RR : Value → Addr → Result → Shared → Prop}
    (W : WalksH prog w A target I fp wr n P St) (hsz : n ≤ sizeLine) (hob : ∀ i h, St i h → ∀ b ∈ wr, ∃ o, h.get? b = some o)
    (hcell : ∀ y ∈ scope.names, y.2 ≠ .cell) (hkind : scope.kind = .function) (hst : St 0 s₂.heap) (hal : ∀ b ∈ fp, ∃ o, s₂.heap.get? b = some o)
    (helt : ∀ i v C m₃ h tk own, i < n → P i v h → s₂.heap.objs.size ≤ C → Fr (hideAll s₂.heap wr) C h m₃ → News (hideAll s₂.heap wr) C h own →
      wpAny (model prog w) A (assign target (compEnvC scope cl C env) v) (fun _ s₄ => wpAny (model prog w) A (eval elt (compEnvC scope cl C env)) (fun y s₅ =>
        ∃ h' tk' m' oo, s₅ = { s₂ with heap := h', toks := tk' } ∧ Fr (hideAll s₂.heap wr) C h' m' ∧ News (hideAll s₂.heap wr) C h' own ∧ G i y oo ∧ AtN h' (fun a => a = C ∨ (hideAll s₂.heap wr).get? a ≠ none ∨ ∃ p ∈ own, p.1 = a) y oo) (fun _ _ => False) s₄) (fun _ _ => False) { s₂ with heap := h, toks := tk })
    (hRR : ∀ D C h' tk m' ys, s₂.heap.get? D = none → s₂.heap.get? C = none → D ≠ C → h'.Ns C m' → h'.get? D = some (LCg.lst ys) → ys.length = n →
      (∀ j y, ys[j]? = some y → ∃ oo, G j y oo ∧ AtN h' (fun a => a = C ∨ a = D ∨ s₂.heap.get? a ≠ none) y oo) → (∀ b o, b ∉ wr → s₂.heap.get? b = some o → h'.get? b = some o) → RR (.ref D) C (.ok .next) { s₂ with heap := h', toks := tk }) :
    wpAny (model prog w) A (newList []) (fun acc s₃ => wpAny (model prog w) A (newFunctionEnv scope env.globals cl [] env.qual none .none (some env)) (fun cenv s₄ =>
      codeAny (model prog w) A (.compStart (.ListComp elt [⟨target, iter, [], 0⟩] scope pos) 0 (.ref I) acc { cenv with scope := relabel scope env }) (RR acc cenv.locals) s₄) E s₃) E s₂ := by
  refine wpAny_newObj_type (wpAny_newFunctionEnv hcell (by intro y hy; simp at hy) (fun h₁ hns₁ hsb₁ => ?_) hkind)
  dsimp only at hns₁ hsb₁ ⊢
  have hfp : ∀ b ∈ fp, b < s₂.heap.objs.size := fun b hb => let ⟨_, e⟩ := hal b hb; Heap.lt_size e
  generalize hH2 : s₂.heap.push { cls := .type "list", dict := none, data := .seq ([] : List Value).toArray } = H2 at hns₁ hsb₁ ⊢
  have hC : H2.objs.size = s₂.heap.objs.size + 1 := by rw [← hH2, Heap.size_push]
  have hDC : s₂.heap.objs.size ≠ H2.objs.size := by rw [hC]; exact Nat.ne_of_lt (Nat.lt_succ_self _)
  have hCle : s₂.heap.objs.size ≤ H2.objs.size := by rw [hC]; exact Nat.le_succ _
  have below : ∀ b, b < s₂.heap.objs.size → b ≠ H2.objs.size ∧ b ≠ s₂.heap.objs.size := fun b hb => ⟨by rw [hC]; exact Nat.ne_of_lt (Nat.lt_succ_of_lt hb), Nat.ne_of_lt hb⟩
  have hDf : s₂.heap.objs.size ∉ fp := fun hm => Nat.lt_irrefl _ (hfp _ hm)
  have hCf : H2.objs.size ∉ fp := fun hm => by have := hfp _ hm; rw [hC] at this; exact Nat.lt_irrefl _ (Nat.lt_of_succ_lt this)
  have hDw : s₂.heap.objs.size ∉ wr := fun h => hDf (W.sub _ h)
  have hCw : H2.objs.size ∉ wr := fun h => hCf (W.sub _ h)
  have old : ∀ b o, s₂.heap.get? b = some o → h₁.get? b = some o := fun b o e => hsb₁.extBut b o (below b (Heap.lt_size e)).1 (Heap.get?_push_of_some _ (hH2 ▸ Heap.get?_push_of_some _ e))
  have hacc : h₁.get? s₂.heap.objs.size = some (LCg.lst []) := hsb₁.extBut _ _ hDC (Heap.get?_push_of_some _ (hH2 ▸ Heap.get?_push_size _ rfl))
  have hst₁ : St 0 h₁ := W.frame _ _ _ hst fun b _ o e => old b o e
  have hD0 : s₂.heap.get? s₂.heap.objs.size = none := fresh_none (Nat.le_refl _)
  have hC0 : s₂.heap.get? H2.objs.size = none := fresh_none hCle
  generalize hDn : s₂.heap.objs.size = D at *
  generalize hCn : H2.objs.size = C at *
  have gof : ∀ b o, (hideAll s₂.heap wr).get? b = some o → s₂.heap.get? b = some o ∧ b ∉ wr := fun b o e => ⟨of_hideAll _ e, fun hb => by rw [hideAll_none _ hb] at e; cases e⟩
  have loop : ∀ s₃ : Shared, s₃ = { s₂ with heap := h₁, toks := s₂.toks + ([] : List (Str × Value)).length } →
      codeAny (model prog w) A (.compLoop (.ListComp elt [⟨target, iter, [], 0⟩] scope pos) 0 (.ref I) (.ref D) (compEnvC scope cl C env)) (RR (.ref D) C) s₃ := by
    rintro s₃ rfl
    refine compLoop_go
      (fun k s' => ∃ (h' : Heap) (tk i : Nat) (ys : List Value) (m' : Str → Option Value) (els : List Addr), s' = { s₂ with heap := h', toks := tk } ∧ i ≤ n ∧ k = n + 1 - i ∧ ys.length = i ∧ St i h' ∧ (∀ b o, b ∉ wr → s₂.heap.get? b = some o → h'.get? b = some o) ∧ h'.Ns C m' ∧ h'.get? D = some (LCg.lst ys) ∧
        C ∉ els ∧ D ∉ els ∧ (∀ j y, ys[j]? = some y → ∃ oo, G j y oo ∧ AtN h' (fun a => a = C ∨ a = D ∨ s₂.heap.get? a ≠ none ∨ a ∈ wr ∨ a ∉ els) y oo)) ?_ (n + 1)
      ⟨h₁, _, 0, [], _, [], rfl, Nat.zero_le _, rfl, rfl, hst₁, fun b o _ e => old b o e, hns₁, hacc, by simp, by simp, by simp⟩
    rintro k s' ⟨h', tk, i, ys, m', els, rfl, hi, rfl, hyl, hst', hk', hn', hD', hCe, hDe, hels⟩
    by_cases hlt : i < n
    · refine W.item i _ _ _ _ _ hlt hst' fun v h₂ tk₂ hPv hst₂ hk₂ => ?_
      have F₂ : Fr (hideAll s₂.heap wr) C h₂ m' := ⟨hn'.at' fun o e => hk₂ _ o hCw e, fun b o e => hk₂ b o (gof b o e).2 (hk' b o (gof b o e).2 (gof b o e).1), by rw [hideAll_size, hDn]; exact hCle⟩
      have hCl : C ∉ (D :: (wr ++ els) : List Addr) := by
        intro hm
        rcases List.mem_cons.mp hm with e | hm
        · exact hDC e.symm
        · exact (List.mem_append.mp hm).elim (fun z => hCw z) fun z => hCe z
      have N₂ : News (hideAll s₂.heap wr) C h₂ (ownOf (hideAll s₂.heap wr) (D :: (wr ++ els)) h₂) := news_ownOf hCl
      have hDg : (hideAll s₂.heap wr).get? D = none := by
        cases q : (hideAll s₂.heap wr).get? D with
        | none => rfl
        | some o => have := (gof _ _ q).1; rw [hD0] at this; cases this
      have hD₂ : h₂.get? D = some (LCg.lst ys) := hk₂ _ _ hDw hD'
      have mD : (D, LCg.lst ys) ∈ ownOf (hideAll s₂.heap wr) (D :: (wr ++ els)) h₂ := mem_ownOf List.mem_cons_self hDg hD₂
      refine wpAny_mono (helt i v C m' h₂ tk₂ _ hlt hPv hCle F₂ N₂) (fun _ s₄ h₄ => wpAny_mono h₄ (fun y s₅ h₅ => ?_) fun _ _ e => e.elim) fun _ _ e => e.elim
      obtain ⟨h₅, tk₅, m₅, oo, rfl, F₅, N₅, hG, hAt⟩ := h₅
      have hD₅ : h₅.get? D = some (LCg.lst ys) := (N₅ _ mD).1
      refine append_at (hsz := by show ys.toArray.size ≤ sizeLine; rw [List.size_toArray, hyl]; exact Nat.le_trans (Nat.le_of_lt hlt) hsz) hD₅ fun h₆ hs₆ hD₆ => ?_
      have k26 : ∀ (b : Addr) (o : Obj), b ∈ (D :: (wr ++ els) : List Addr) → b ≠ D → (hideAll s₂.heap wr).get? b = none → h₂.get? b = some o → h₆.get? b = some o := fun b o hb hbD hg e => (hs₆.2 b hbD).trans (N₅ _ (mem_ownOf hb hg e)).1
      have hwg : ∀ b ∈ wr, (hideAll s₂.heap wr).get? b = none := fun b hb => hideAll_none _ hb
      have newels : ∃ els' : List Addr, C ∉ els' ∧ D ∉ els' ∧ (∀ a ∈ els, a ∈ els') ∧ AtN h₆ (fun a => a = C ∨ a = D ∨ s₂.heap.get? a ≠ none ∨ a ∈ wr ∨ a ∉ els') y oo := by
        cases oo with
        | none => exact ⟨els, hCe, hDe, fun _ h => h, trivial⟩
        | some o =>
          obtain ⟨a, rfl, ha, hbad⟩ := hAt
          have aC : a ≠ C := fun e => hbad (.inl e)
          have aD : a ≠ D := fun e => hbad (.inr (.inr ⟨_, mD, e.symm⟩))
          have ag : (hideAll s₂.heap wr).get? a = none := by
            cases q : (hideAll s₂.heap wr).get? a with
            | none => rfl
            | some o' => exact (hbad (.inr (.inl (by rw [q]; exact fun e => nomatch e)))).elim
          have aw : a ∉ wr := fun hm => by
            obtain ⟨ow, how⟩ := hob _ _ hst₂ a hm
            exact hbad (.inr (.inr ⟨_, mem_ownOf (List.mem_cons_of_mem _ (List.mem_append.mpr (.inl hm))) ag how, rfl⟩))
          refine ⟨a :: els, ?_, ?_, fun _ h => List.mem_cons_of_mem _ h, a, rfl, (hs₆.2 a aD).trans ha, ?_⟩
          · intro hm; rcases List.mem_cons.mp hm with e | hm
            · exact aC e.symm
            · exact hCe hm
          · intro hm; rcases List.mem_cons.mp hm with e | hm
            · exact aD e.symm
            · exact hDe hm
          · rintro (e | e | e | e | e)
            · exact aC e
            · exact aD e
            · exact e (hide_none ag aw)
            · exact aw e
            · exact e List.mem_cons_self
      obtain ⟨els', hCe', hDe', hsub, hAt'⟩ := newels
      refine ⟨n + 1 - (i + 1), by omega, h₆, tk₅, i + 1, ys ++ [y], m₅, els', rfl, hlt, rfl, by rw [List.length_append, List.length_singleton, hyl], ?_, ?_, F₅.ns.sameBut hs₆ (Ne.symm hDC), hD₆.trans (congrArg some (LCg.lst_snoc ys y)), hCe', hDe', ?_⟩
      · refine W.frame _ _ _ hst₂ fun b hb o e => ?_
        by_cases hbw : b ∈ wr
        · exact k26 b o (List.mem_cons_of_mem _ (List.mem_append.mpr (.inl hbw))) (fun q => hDw (q ▸ hbw)) (hwg b hbw) e
        · have hlt2 := hfp b hb
          cases q : (hideAll s₂.heap wr).get? b with
          | some o' =>
            have e1 := F₂.keep b o' q
            rw [e] at e1; cases e1
            exact (hs₆.2 b fun z => hDf (by rw [← z]; exact hb)).trans (F₅.keep b _ q)
          | none =>
            obtain ⟨o', e'⟩ := hal b hb
            rw [hideAll_get _ e' hbw] at q
            cases q
      · intro b o hb e
        have hbD : b ≠ D := fun q => by rw [q, hD0] at e; cases e
        exact (hs₆.2 b hbD).trans (F₅.keep b o (hideAll_get _ e hb))
      · intro j y' hj
        rcases Nat.lt_trichotomy j ys.length with hjl | hjl | hjl
        · rw [List.getElem?_append_left hjl] at hj
          obtain ⟨oo', hG', hA'⟩ := hels j y' hj
          refine ⟨oo', hG', hA'.keeps (fun a o hbad ha => ?_) ?_⟩
          · have aD : a ≠ D := fun q => hbad (.inr (.inl q))
            have ae : a ∈ els := Decidable.byContradiction fun q => hbad (.inr (.inr (.inr (.inr q))))
            have aw : a ∉ wr := fun q => hbad (.inr (.inr (.inr (.inl q))))
            have an : s₂.heap.get? a = none := by
              cases q : s₂.heap.get? a with
              | none => rfl
              | some o' => exact (hbad (.inr (.inr (.inl (by rw [q]; exact fun e => nomatch e))))).elim
            have ag : (hideAll s₂.heap wr).get? a = none := by
              cases q : (hideAll s₂.heap wr).get? a with
              | none => rfl
              | some o' => have := (gof _ _ q).1; rw [an] at this; cases this
            exact k26 a o (List.mem_cons_of_mem _ (List.mem_append.mpr (.inr ae))) aD ag (hk₂ _ _ aw ha)
          · rintro a (q | q | q | q | q)
            · exact .inl q
            · exact .inr (.inl q)
            · exact .inr (.inr (.inl q))
            · exact .inr (.inr (.inr (.inl q)))
            · exact .inr (.inr (.inr (.inr fun z => q (hsub a z))))
        · subst hjl
          simp at hj
          subst hj
          exact ⟨oo, by rw [hyl]; exact hG, hAt'⟩
        · rw [List.getElem?_eq_none (by rw [List.length_append, List.length_singleton]; omega)] at hj; cases hj
    · have hin : i = n := by omega
      subst hin
      refine W.done _ _ _ hst' fun h₂ tk₂ hk₂ => ?_
      refine hRR D C h₂ tk₂ m' ys hD0 hC0 hDC (hn'.at' fun o e => hk₂ _ o hCw e) (hk₂ _ _ hDw hD') hyl (fun j y hj => ?_) fun b o hb e => hk₂ b o hb (hk' b o hb e)
      obtain ⟨oo, hG, hA⟩ := hels j y hj
      exact ⟨oo, hG, hA.keeps (fun a o hbad ha => hk₂ a o (fun q => hbad (.inr (.inr (.inr (.inl q))))) ha) fun a q => q.elim .inl fun q => .inr (q.elim .inl fun q => .inr (.inl q))⟩
  have := codeAny_compStart_list (loop _ rfl) (W.self 0 _ _ _ hst₁ (loop _ rfl))
  exact this
end
section
variable {prog : Program} {w : World} {A : Around} {s : Shared} {env : Env} {h₀ : Heap} {E : Value → Shared → Prop}
def InE (els : List (Addr × Obj)) (y : Value) : Option Obj → Prop
  | none => True
  | some o => ∃ a, y = .ref a ∧ (a, o) ∈ els
theorem InE.mono {els els' : List (Addr × Obj)} {y : Value} {oo : Option Obj} (x : InE els y oo) (k : ∀ p ∈ els, p ∈ els') : InE els' y oo := by
  cases oo with
  | none => trivial
  | some o => obtain ⟨a, e, m⟩ := x; exact ⟨a, e, k _ m⟩
theorem els_of {h' : Heap} {G : Nat → Value → Option Obj → Prop} {bad : Addr → Prop} : ∀ (ys : List Value) (k : Nat), (∀ j y, ys[j]? = some y → ∃ oo, G (k + j) y oo ∧ AtN h' bad y oo) →
    ∃ els : List (Addr × Obj), (∀ p ∈ els, h'.get? p.1 = some p.2 ∧ ¬ bad p.1) ∧ ∀ j y, ys[j]? = some y → ∃ oo, G (k + j) y oo ∧ InE els y oo
  | [], _, _ => ⟨[], (fun _ h => nomatch h), (fun j y h => by simp at h)⟩
  | y :: ys, k, H => by
    obtain ⟨els, h1, h2⟩ := els_of ys (k + 1) (fun j z hz => by
      have := H (j + 1) z (by simpa using hz)
      rw [show k + (j + 1) = k + 1 + j by omega] at this; exact this)
    obtain ⟨oo, hG, hA⟩ := H 0 y rfl
    cases oo with
    | none =>
      refine ⟨els, h1, fun j z hz => ?_⟩
      cases j with
      | zero => simp at hz; subst hz; exact ⟨none, hG, trivial⟩
      | succ j =>
        obtain ⟨oo, a, b⟩ := h2 j z (by simpa using hz)
        exact ⟨oo, by rw [show k + (j + 1) = k + 1 + j by omega]; exact a, b⟩
    | some o =>
      obtain ⟨a, rfl, ha, hb⟩ := hA
      refine ⟨(a, o) :: els, fun p hp => ?_, fun j z hz => ?_⟩
      · rcases List.mem_cons.mp hp with rfl | hp
        · exact ⟨ha, hb⟩
        · exact h1 p hp
      · cases j with
        | zero => simp at hz; subst hz; exact ⟨some o, hG, a, rfl, List.mem_cons_self⟩
        | succ j =>
          obtain ⟨oo, a', b⟩ := h2 j z (by simpa using hz)
          exact ⟨oo, by rw [show k + (j + 1) = k + 1 + j by omega]; exact a', b.mono fun _ h => List.mem_cons_of_mem _ h⟩

def CompG (prog : Program) (w : World) (A : Around) (h₀ : Heap) (env : Env) (elt target : Expr) (scope : Scope) (cl : List (Str × Addr)) (up : Value → (Str → Option Value) → (Str → Option Value)) (Q : Value → Shared → Prop) (it : Value) (s₂ : Shared) : Prop :=
  ∃ (I : Addr) (fp wr : List Addr) (n : Nat) (P : Nat → Value → Heap → Prop) (St : Nat → Heap → Prop) (G : Nat → Value → Option Obj → Prop) (m : Str → Option Value) (news : List (Addr × Obj)),
    it = .ref I ∧ WalksH prog w A target I fp wr n P St ∧ n ≤ sizeLine ∧ (∀ i h, St i h → ∀ b ∈ wr, ∃ o, h.get? b = some o) ∧ env.locals ∉ wr ∧ (∀ b ∈ wr, h₀.get? b = none) ∧ (∀ p ∈ news, p.1 ∉ wr) ∧ (∀ b ∈ fp, ∃ o, s₂.heap.get? b = some o) ∧
    St 0 s₂.heap ∧ Fr h₀ env.locals s₂.heap m ∧ News h₀ env.locals s₂.heap news ∧
    (∀ i v C m₃ h tk own, i < n → P i v h → env.locals ≠ C → (∀ b o, h₀.get? b = some o → (hideAll s₂.heap wr).get? b = some o) → (∀ p ∈ news, (hideAll s₂.heap wr).get? p.1 = some p.2) →
      Fr (hideAll s₂.heap wr) C h m₃ → News (hideAll s₂.heap wr) C h own →
      wpAny (model prog w) A (assign target (compEnvC scope cl C env) v) (fun _ s₄ => wpAny (model prog w) A (eval elt (compEnvC scope cl C env)) (fun y s₅ =>
        ∃ h' tk' m' oo, s₅ = { s₂ with heap := h', toks := tk' } ∧ Fr (hideAll s₂.heap wr) C h' m' ∧ News (hideAll s₂.heap wr) C h' own ∧ G i y oo ∧ AtN h' (fun a => a = C ∨ (hideAll s₂.heap wr).get? a ≠ none ∨ ∃ p ∈ own, p.1 = a) y oo) (fun _ _ => False) s₄) (fun _ _ => False) { s₂ with heap := h, toks := tk }) ∧
    (∀ D h' tk ys els, Fr h₀ env.locals h' (up (.ref D) m) → News h₀ env.locals h' (els ++ (D, LCg.lst ys) :: news) → (∀ p ∈ els, p.1 ≠ D ∧ s₂.heap.get? p.1 = none) → s₂.heap.get? D = none → ys.length = n → (∀ j y, ys[j]? = some y → ∃ oo, G j y oo ∧ InE els y oo) → Q (.ref D) { s₂ with heap := h', toks := tk })

theorem compE {elt iter target : Expr} {scope : Scope} {cl : List (Str × Addr)} {pos : Pos} {Q : Value → Shared → Prop} (h₀ : Heap)
    (hclos : closureFor scope env = pure cl) (hcell : ∀ y ∈ scope.names, y.2 ≠ .cell) (hkind : scope.kind = .function)
    (hnames : ∀ y ∈ scope.names, y.2 = .local → scope.names.lookup y.1 = some .local)
    (h : wpAny (model prog w) A (eval iter env) (fun xv s₁ => wpAny (model prog w) A (pyIter xv) (fun it s₂ => CompG prog w A h₀ env elt target scope cl (fun _ m => m) Q it s₂) E s₁) E s)
    (hs : ∀ x, foldedSetIterable iter env x = pure x := by intro _; rfl) :
    wpAny (model prog w) A (eval (.ListComp elt [⟨target, iter, [], 0⟩] scope pos) env) Q E s := by
  rw [eval_ListComp]
  refine wpAny_comprehension_free (use := none) rfl hs hclos hkind hnames (wpAny_mono h (fun xv s₁ h₁ => wpAny_mono h₁ (fun it s₂ h₂ => ?_) fun _ _ e => e) fun _ _ e => e)
  obtain ⟨I, fp, wr, n, P, St, G, m, news, rfl, W, hsz, hob, hLw, hwr, hnw, hal, hst, F, N, helt, hQ⟩ := h₂
  have hLs : ∃ o, s₂.heap.get? env.locals = some o := let ⟨o, _, _, e, _⟩ := F.ns; ⟨o, e⟩
  obtain ⟨oL, hoL⟩ := hLs
  have g0 : ∀ b o, h₀.get? b = some o → (hideAll s₂.heap wr).get? b = some o := fun b o e => hideAll_get _ (F.keep b o e) fun hb => by rw [hwr b hb] at e; cases e
  have gn : ∀ p ∈ news, (hideAll s₂.heap wr).get? p.1 = some p.2 := fun p hp => hideAll_get _ (N p hp).1 (hnw p hp)
  refine comp_blockG (RR := fun acc C => compPost (model prog w) A E none Q acc C) G W hsz hob hcell hkind hst hal (fun i v C m₃ h tk own hi hP hC F₃ N₃ => helt i v C m₃ h tk own hi hP (fun e => by rw [← e] at hC; exact absurd (Heap.lt_size hoL) (Nat.not_lt.mpr hC)) g0 gn F₃ N₃) ?_
  intro D C h' tk m' ys hD hC hDC hnC hlD hlen hys hk
  refine ⟨m', hnC, fun h'' hs'' => ?_⟩
  have hLC : env.locals ≠ C := by rintro rfl; rw [hC] at hoL; cases hoL
  have hk' : ∀ b o, b ∉ wr → s₂.heap.get? b = some o → h''.get? b = some o := fun b o hb e => (hs''.2 b (by rintro rfl; rw [hC] at e; cases e)).trans (hk b o hb e)
  have old : ∀ b o, h₀.get? b = some o → b ∉ wr := fun b o e hb => by rw [hwr b hb] at e; cases e
  obtain ⟨els, he1, he2⟩ := els_of (h' := h'') (G := G) (bad := fun a => a = C ∨ a = D ∨ s₂.heap.get? a ≠ none) ys 0 (fun j y hj => by
    obtain ⟨oo, hG, hA⟩ := hys j y hj
    exact ⟨oo, by simpa using hG, hA.keeps (fun a o hb e => (hs''.2 a fun q => hb (.inl q)).trans e) fun _ q => q⟩)
  have en : ∀ p ∈ els, s₂.heap.get? p.1 = none := fun p hp => by
    cases q : s₂.heap.get? p.1 with
    | none => rfl
    | some o => exact ((he1 p hp).2 (.inr (.inr (by rw [q]; exact fun e => nomatch e)))).elim
  refine hQ D h'' tk ys els ⟨F.ns.at' fun o e => hk' _ o hLw e, fun b o e => hk' b o (old b o e) (F.keep b o e), F.above⟩ (fun p hp => ?_) (fun p hp => ⟨fun q => (he1 p hp).2 (.inr (.inl q)), en p hp⟩) hD hlen (by simpa using he2)
  have h0n : ∀ a, s₂.heap.get? a = none → a ≠ env.locals ∧ h₀.get? a = none := fun a e => ⟨(by rintro rfl; rw [hoL] at e; cases e), by
    cases q : h₀.get? a with
    | none => rfl
    | some o => rw [F.keep a o q] at e; cases e⟩
  rcases List.mem_append.mp hp with hp | hp
  · exact ⟨(he1 p hp).1, h0n _ (en p hp)⟩
  · rcases List.mem_cons.mp hp with rfl | hp
    · exact ⟨(hs''.2 D hDC).trans hlD, h0n _ hD⟩
    · exact ⟨hk' _ _ (hnw p hp) (N p hp).1, (N p hp).2⟩

theorem compA {elt iter target : Expr} {y : Str} {py : Pos} {scope : Scope} {cl : List (Str × Addr)} {pos spos : Pos} {Q : Flow → Shared → Prop} (h₀ : Heap)
    (hsw : swapsWith (.ListComp elt [⟨target, iter, [], 0⟩] scope pos) (some (.Name y py)) spos.line env = pure true)
    (hclos : closureFor scope env = pure cl) (hcell : ∀ z ∈ scope.names, z.2 ≠ .cell) (hkind : scope.kind = .function)
    (hnames : ∀ z ∈ scope.names, z.2 = .local → scope.names.lookup z.1 = some .local)
    (hy : env.kindOf y = some .local) (hp : (env.scope.kind == .class || (env.scope.kind == .module && env.locals != env.globals)) = false)
    (h : wpAny (model prog w) A (eval iter env) (fun xv s₁ => wpAny (model prog w) A (pyIter xv) (fun it s₂ => CompG prog w A h₀ env elt target scope cl (fun v m z => if z = y then some v else m z) (fun _ s' => Q .next s') it s₂) E s₁) E s)
    (hs : ∀ x, foldedSetIterable iter env x = pure x := by intro _; rfl) :
    wpAny (model prog w) A (exec (.Assign [.Name y py] (.ListComp elt [⟨target, iter, [], 0⟩] scope pos) spos) env) Q E s := by
  rw [exec_Assign_Name_used _ _ _ _ hsw]
  refine wpAny_bind (wpAny_standAt (wpAny_bind ?_))
  show wpAny _ A (do let _ ← comprehension (.ListComp elt [⟨target, iter, [], 0⟩] scope pos) scope env _ (newList []) false (eval iter env) (some (assign (.Name y py) env))) _ _ s
  refine wpAny_bind (wpAny_mono (wpAny_comprehension_free (use := some (assign (.Name y py) env)) (Q := fun _ s' => Q .next s') rfl hs hclos hkind hnames
    (wpAny_mono h (fun xv s₁ h₁ => wpAny_mono h₁ (fun it s₂ h₂ => ?_) fun _ _ e => e) fun _ _ e => e)) (fun _ s' hq => wpAny_pure (wpAny_pure hq)) fun _ _ e => e)
  obtain ⟨I, fp, wr, n, P, St, G, m, news, rfl, W, hsz, hob, hLw, hwr, hnw, hal, hst, F, N, helt, hQ⟩ := h₂
  have hLs : ∃ o, s₂.heap.get? env.locals = some o := let ⟨o, _, _, e, _⟩ := F.ns; ⟨o, e⟩
  obtain ⟨oL, hoL⟩ := hLs
  have g0 : ∀ b o, h₀.get? b = some o → (hideAll s₂.heap wr).get? b = some o := fun b o e => hideAll_get _ (F.keep b o e) fun hb => by rw [hwr b hb] at e; cases e
  have gn : ∀ p ∈ news, (hideAll s₂.heap wr).get? p.1 = some p.2 := fun p hp => hideAll_get _ (N p hp).1 (hnw p hp)
  refine comp_blockG (RR := fun acc C => compPost (model prog w) A E (some (assign (.Name y py) env)) (fun _ s' => Q .next s') acc C) G W hsz hob hcell hkind hst hal (fun i v C m₃ h tk own hi hP hC F₃ N₃ => helt i v C m₃ h tk own hi hP (fun e => by rw [← e] at hC; exact absurd (Heap.lt_size hoL) (Nat.not_lt.mpr hC)) g0 gn F₃ N₃) ?_
  intro D C h' tk m' ys hD hC hDC hnC hlD hlen hys hk
  have hLC : env.locals ≠ C := by rintro rfl; rw [hC] at hoL; cases hoL
  have hLD : env.locals ≠ D := by rintro rfl; rw [hD] at hoL; cases hoL
  show wpAny _ A (assign (.Name y py) env (.ref D)) _ _ _
  refine wpAny_assign_Name (wpAny_storeName_local hy (F.ns.at' fun o e => hk _ o hLw e) (fun h₂ hn₂ hs₂ => ?_) hp)
  refine ⟨m', hnC.sameBut hs₂ (Ne.symm hLC), fun h'' hs'' => ?_⟩
  have up : ∀ b o, b ≠ C → b ≠ env.locals → h'.get? b = some o → h''.get? b = some o := fun b o hbC hbL e => (hs''.2 b hbC).trans ((hs₂.2 b hbL).trans e)
  have hk' : ∀ b o, b ≠ env.locals → b ∉ wr → s₂.heap.get? b = some o → h''.get? b = some o := fun b o hbL hb e => up b o (by rintro rfl; rw [hC] at e; cases e) hbL (hk b o hb e)
  have old : ∀ b o, h₀.get? b = some o → b ∉ wr := fun b o e hb => by rw [hwr b hb] at e; cases e
  obtain ⟨els, he1, he2⟩ := els_of (h' := h'') (G := G) (bad := fun a => a = C ∨ a = D ∨ s₂.heap.get? a ≠ none) ys 0 (fun j y hj => by
    obtain ⟨oo, hG, hA⟩ := hys j y hj
    exact ⟨oo, by simpa using hG, hA.keeps (fun a o hb e => up a o (fun q => hb (.inl q)) (fun q => hb (.inr (.inr (by rw [q, hoL]; exact fun e => nomatch e)))) e) fun _ q => q⟩)
  have en : ∀ p ∈ els, s₂.heap.get? p.1 = none := fun p hp => by
    cases q : s₂.heap.get? p.1 with
    | none => rfl
    | some o => exact ((he1 p hp).2 (.inr (.inr (by rw [q]; exact fun e => nomatch e)))).elim
  have hL0 : ∀ b o, h₀.get? b = some o → b ≠ env.locals := fun b o e q => by
    have := Heap.lt_size e; rw [q] at this; exact absurd this (Nat.not_lt.mpr F.above)
  refine hQ D h'' _ ys els ⟨hn₂.sameBut hs'' hLC, fun b o e => hk' b o (hL0 b o e) (old b o e) (F.keep b o e), F.above⟩ (fun p hp => ?_) (fun p hp => ⟨fun q => (he1 p hp).2 (.inr (.inl q)), en p hp⟩) hD hlen (by simpa using he2)
  have h0n : ∀ a, s₂.heap.get? a = none → a ≠ env.locals ∧ h₀.get? a = none := fun a e => ⟨(by rintro rfl; rw [hoL] at e; cases e), by
    cases q : h₀.get? a with
    | none => rfl
    | some o => rw [F.keep a o q] at e; cases e⟩
  rcases List.mem_append.mp hp with hp | hp
  · exact ⟨(he1 p hp).1, h0n _ (en p hp)⟩
  · rcases List.mem_cons.mp hp with rfl | hp
    · exact ⟨up D _ hDC (Ne.symm hLD) hlD, h0n _ hD⟩
    · exact ⟨hk' _ _ (N p hp).2.1 (hnw p hp) (N p hp).1, (N p hp).2⟩
end
section
variable {prog : Program} {w : World} {A : Around} {s : Shared} {env : Env} {h₀ : Heap} {m : Str → Option Value} {news : List (Addr × Obj)}
theorem next_new {L : Addr} (F : Fr h₀ L s.heap m) : h₀.get? s.heap.objs.size = none := by
  cases e : h₀.get? s.heap.objs.size with
  | none => rfl
  | some o => exact absurd (Heap.lt_size (F.keep _ _ e)) (Nat.lt_irrefl _)
theorem compFresh {elt target : Expr} {scope : Scope} {cl : List (Str × Addr)} {up : Value → (Str → Option Value) → (Str → Option Value)} {Q : Value → Shared → Prop} {o : Obj} {fp : List Addr} {n : Nat} {P : Nat → Value → Prop} {St : Nat → Heap → Prop} (G : Nat → Value → Option Obj → Prop)
    (F : Fr h₀ env.locals s.heap m) (N : News h₀ env.locals s.heap news) (hf : o.isFreed = false)
    (W : Walks prog w A s.heap.objs.size fp [s.heap.objs.size] n P St) (hgo : GoOk prog w A target s.heap.objs.size P St) (hsz : n ≤ sizeLine) (hob : ∀ i h, St i h → ∃ o, h.get? s.heap.objs.size = some o)
    (hfp : ∀ b ∈ fp, b = s.heap.objs.size ∨ ∃ o, s.heap.get? b = some o) (hst : St 0 (s.heap.push o))
    (helt : ∀ i v C m₃ h tk own, i < n → P i v → env.locals ≠ C → (∀ b o', h₀.get? b = some o' → (hideAll (s.heap.push o) [s.heap.objs.size]).get? b = some o') → (∀ p ∈ news, (hideAll (s.heap.push o) [s.heap.objs.size]).get? p.1 = some p.2) →
      Fr (hideAll (s.heap.push o) [s.heap.objs.size]) C h m₃ → News (hideAll (s.heap.push o) [s.heap.objs.size]) C h own →
      wpAny (model prog w) A (assign target (compEnvC scope cl C env) v) (fun _ s₄ => wpAny (model prog w) A (eval elt (compEnvC scope cl C env)) (fun y s₅ =>
        ∃ h' tk' m' oo, s₅ = { s with heap := h', toks := tk' } ∧ Fr (hideAll (s.heap.push o) [s.heap.objs.size]) C h' m' ∧ News (hideAll (s.heap.push o) [s.heap.objs.size]) C h' own ∧ G i y oo ∧ AtN h' (fun a => a = C ∨ (hideAll (s.heap.push o) [s.heap.objs.size]).get? a ≠ none ∨ ∃ p ∈ own, p.1 = a) y oo) (fun _ _ => False) s₄) (fun _ _ => False) { s with heap := h, toks := tk })
    (hQ : ∀ D h' tk ys els, Fr h₀ env.locals h' (up (.ref D) m) → News h₀ env.locals h' (els ++ (D, LCg.lst ys) :: news) → (∀ p ∈ els, p.1 ≠ D ∧ s.heap.get? p.1 = none) → s.heap.get? D = none → ys.length = n → (∀ j y, ys[j]? = some y → ∃ oo, G j y oo ∧ InE els y oo) → Q (.ref D) { s with heap := h', toks := tk }) :
    CompG prog w A h₀ env elt target scope cl up Q (.ref s.heap.objs.size) { s with heap := s.heap.push o } := by
  have kp : ∀ b o', s.heap.get? b = some o' → (s.heap.push o).get? b = some o' := fun b o' e => Heap.get?_push_of_some _ e
  have hn : ∀ a, (s.heap.push o).get? a = none → s.heap.get? a = none := fun a e => by
    cases q : s.heap.get? a with
    | none => rfl
    | some o' => rw [kp a o' q] at e; cases e
  refine ⟨_, fp, _, n, fun i v _ => P i v, St, G, m, news, rfl, WalksH.of W hgo, hsz, ?_, ?_, ?_, ?_, ?_, hst, frExt F kp, newsExt N kp, helt, ?_⟩
  · intro i h hs b hb; rw [List.mem_singleton.mp hb]; exact hob i h hs
  · intro hm; exact absurd F.ns.lt ((List.mem_singleton.mp hm) ▸ Nat.lt_irrefl _)
  · intro b hb; rw [List.mem_singleton.mp hb]; exact next_new F
  · intro p hp hm; exact absurd (Heap.lt_size (N p hp).1) ((List.mem_singleton.mp hm) ▸ Nat.lt_irrefl _)
  · intro b hb
    rcases hfp b hb with rfl | ⟨o', e⟩
    · exact ⟨o, Heap.get?_push_size _ hf⟩
    · exact ⟨o', kp _ _ e⟩
  · intro D h' tk ys els F' N' he hD hl hy
    exact hQ D h' tk ys els F' N' (fun p hp => ⟨(he p hp).1, hn _ (he p hp).2⟩) (hn _ hD) hl hy

theorem loopFresh {E : Value → Shared → Prop} {target : Expr} {body orelse : List Stmt} {Q : Flow → Shared → Prop} {o : Obj} {fp : List Addr} {n : Nat} {P : Nat → Value → Prop} {St : Nat → Heap → Prop} (J : Nat → (Str → Option Value) → List (Addr × Obj) → Prop)
    (F : Fr h₀ env.locals s.heap m) (N : News h₀ env.locals s.heap news)
    (W : Walks prog w A s.heap.objs.size fp [s.heap.objs.size] n P St) (hgo : GoOk prog w A target s.heap.objs.size P St) (hob : ∀ i h, St i h → ∃ o, h.get? s.heap.objs.size = some o)
    (hfp : ∀ b ∈ fp, b = s.heap.objs.size ∨ (∃ o, h₀.get? b = some o) ∨ (∃ o, ∀ i m nx, J i m nx → (b, o) ∈ nx)) (hst : St 0 (s.heap.push o)) (h0 : J 0 m news)
    (step : ∀ i v m₁ nx h tk own, i < n → P i v → J i m₁ nx → OwnOff own (nx.map (·.1)) → Fr h₀ env.locals h m₁ → News h₀ env.locals h (nx ++ own) →
      wpAny (model prog w) A (assign target env v) (fun _ s₃ => wpAny (model prog w) A (execs body env) (fun f s₄ => match f with
        | .ret v => Q (.ret v) s₄
        | .brk => Q .next s₄
        | _ => ∃ h' tk' m' nx', s₄ = { s with heap := h', toks := tk' } ∧ Fr h₀ env.locals h' m' ∧ News h₀ env.locals h' (nx' ++ own) ∧ OwnOff own (nx'.map (·.1)) ∧ J (i + 1) m' nx') (fun _ _ => False) s₃) (fun _ _ => False) { s with heap := h, toks := tk })
    (done : ∀ h' tk m' nx, Fr h₀ env.locals h' m' → News h₀ env.locals h' nx → J n m' nx → wpAny (model prog w) A (execs orelse env) Q E { s with heap := h', toks := tk }) :
    LoopG prog w A h₀ env target body orelse Q E (.ref s.heap.objs.size) { s with heap := s.heap.push o } := by
  have kp : ∀ b o', s.heap.get? b = some o' → (s.heap.push o).get? b = some o' := fun b o' e => Heap.get?_push_of_some _ e
  refine ⟨_, fp, _, n, fun i v _ => P i v, St, m, news, J, rfl, WalksH.of W hgo, ?_, ?_, ?_, ?_, ?_, hst, frExt F kp, newsExt N kp, h0, step, done⟩
  · intro i h hs b hb; rw [List.mem_singleton.mp hb]; exact hob i h hs
  · intro hm; exact absurd F.ns.lt ((List.mem_singleton.mp hm) ▸ Nat.lt_irrefl _)
  · intro b hb; rw [List.mem_singleton.mp hb]; exact next_new F
  · intro p hp hm; exact absurd (Heap.lt_size (N p hp).1) ((List.mem_singleton.mp hm) ▸ Nat.lt_irrefl _)
  · intro b hb
    rcases hfp b hb with rfl | h | h
    · exact .inl List.mem_cons_self
    · exact .inr (.inl h)
    · exact .inr (.inr h)
end
section
variable {prog : Program} {w : World} {A : Around} {s : Shared} {env : Env} {h₀ : Heap} {m mg mb : Str → Option Value} {news : List (Addr × Obj)} {E : Value → Shared → Prop} {K : Frag} {p : Program} {loose : List Str} {x : Str} {pos : Pos} {v : Value}
theorem ldC {Q : Value → Shared → Prop} (F : Fr h₀ env.locals s.heap m) (hv : m x = some v) (h : Q v s)
    (hk : env.scope.kind = .function := by rfl) (hl : env.kindOf x = some .local := by rfl) (hd : (x == ("__debug__" : Str)) = false := by decide) :
    wpAny (model prog w) A (eval (.Name x pos) env) Q E s := wpAny_Name (wpAny_loadName_local hk hl F.ns hv h) hd
theorem stC {Q : Unit → Shared → Prop} (F : Fr h₀ env.locals s.heap m) (N : News h₀ env.locals s.heap news)
    (h : ∀ h', Fr h₀ env.locals h' (fun y => if y = x then some v else m y) → News h₀ env.locals h' news → Q () { s with heap := h', toks := s.toks + 1 })
    (hl : env.kindOf x = some .local := by rfl) (hp : (env.scope.kind == .class || (env.scope.kind == .module && env.locals != env.globals)) = false := by rfl) :
    wpAny (model prog w) A (storeName env x v) Q E s := wpAny_storeName_local hl F.ns (fun h' hn hs => h h' (F.set hn hs) (N.set hs)) hp
theorem glC {L : Addr} {Q : Value → Shared → Prop} (F : Fr h₀ L s.heap m) (X : K.In h₀) (T : TopRead p loose mg mb h₀) (e : nsIn K mainGlobals x = some (some v)) (h : Q v s)
    (hg : env.globals = mainGlobals := by rfl) (hk : env.scope.kind = .function := by rfl) (hx : env.kindOf x = some .globalImplicit := by rfl) (hd : (x == ("__debug__" : Str)) = false := by decide) :
    wpAny (model prog w) A (eval (.Name x pos) env) Q E s :=
  Calls.Name_function_global hk hx (Calls.loadGlobal_global (env := env) (by rw [hg]; exact T.g.keeps F.keep) (mg_of X T.g e) h) hd
theorem blC {L : Addr} {Q : Value → Shared → Prop} (F : Fr h₀ L s.heap m) (X : K.In h₀) (T : TopRead p loose mg mb h₀) (e : nsIn K mainGlobals x = some none) (hv : bootBuiltins x = some v) (hn : x ≠ "__name__") (h : Q v s)
    (hg : env.globals = mainGlobals := by rfl) (hb : env.builtins = builtinsNs := by rfl) (hk : env.scope.kind = .function := by rfl) (hx : env.kindOf x = some .globalImplicit := by rfl) (hd : (x == ("__debug__" : Str)) = false := by decide) :
    wpAny (model prog w) A (eval (.Name x pos) env) Q E s :=
  Calls.Name_function_global hk hx (Calls.loadGlobal_builtin (env := env) (by rw [hg]; exact T.g.keeps F.keep) (mg_none_of X T.g e) (by rw [hb]; exact T.b.keeps F.keep) ((T.builtins x hn).trans hv) h) hd
end
theorem pyIter_strO {prog : Program} {w : World} {A : Around} {E : Value → Shared → Prop} {s : Shared} {x : Str} {t : Tok} {Q : Value → Shared → Prop}
    (hQ : ∀ (o : Obj) (St : Nat → Heap → Prop), (∀ A' : Around, A'.handled = none → Walks prog w A' s.heap.objs.size [s.heap.objs.size] [s.heap.objs.size] x.cps.size (SignAt x) St) → St 0 (s.heap.push o) → o.isFreed = false → (∀ i h, St i h → ∃ o, h.get? s.heap.objs.size = some o) →
      Q (.ref s.heap.objs.size) { s with heap := s.heap.push o }) : wpAny (model prog w) A (pyIter (.str x t)) Q E s := by
  cases ha : x.cps.all (· < 128)
  · exact wpAny_pyIter_wide ha (hQ _ _ (fun A' hA => Walks.strWide hA _ x t) ⟨_, Heap.get?_push_size _ rfl, rfl, rfl⟩ rfl fun i h ⟨o, e, _⟩ => ⟨o, e⟩)
  · exact wpAny_pyIter_ascii ha (hQ _ _ (fun A' hA => Walks.strAscii hA _ x t) ⟨_, Heap.get?_push_size _ rfl, rfl, rfl⟩ rfl fun i h ⟨o, e, _⟩ => ⟨o, e⟩)
local macro_rules | `(tactic| walk_at "eval Name") => `(tactic| (k_here; (with_reducible show wpAny _ _ (eval (Expr.Name _ _) (compEnvC _ _ _ _)) _ _ _); k_dflt (first
  | (refine' ldC ?k1 ?k2 ?_; (case k1 => k_asm); (case k2 => exact rfl); k_whole)
  | (refine' glC ?k1 ?k2 ?k3 ?k4 ?_; (case k1 => k_asm); (case k2 => k_asm); (case k3 => k_asm); (case k4 => k_is); k_whole)
  | (refine' blC ?k1 ?k2 ?k3 ?k4 ?k5 ?k6 ?_; (case k1 => k_asm); (case k2 => k_asm); (case k3 => k_asm); (case k4 => k_is); (case k5 => boot_by_name); (case k6 => decide); k_whole))))
local macro_rules | `(tactic| walk_at "storeName") => `(tactic| (k_here; (with_reducible show wpAny _ _ (storeName (compEnvC _ _ _ _) _ _) _ _ _); k_dflt (refine' stC ?k1 ?k2 ?_; (case k1 => k_asm); (case k2 => k_asm); k_whole); intro h' F' N'))
theorem apF_succ_le : ∀ (k n : Nat), n < 16 ^ k → ∀ j, k ≤ j → apF j n = apF k n
  | 0, n, h, j, _ => by
    have : n = 0 := by simpa using h
    subst this; rw [apF_zero, apF_zero]
  | k + 1, n, h, 0, hj => by omega
  | k + 1, n, h, j + 1, hj => by
    by_cases hn : n = 0
    · subst hn; rw [apF_zero, apF_zero]
    · rw [apF_pos hn, apF_pos hn, apF_succ_le k (n / 16) (by rw [Nat.pow_succ] at h; omega) j (by omega)]
theorem fmod16 (n : Nat) : (n : Int).fmod 16 = ((n % 16 : Nat) : Int) := by rw [Int.fmod_eq_emod_of_nonneg _ (by decide)]; omega
theorem fdiv16 (n : Nat) : (n : Int).fdiv 16 = ((n / 16 : Nat) : Int) := by rw [Int.fdiv_eq_ediv_of_nonneg _ (by decide)]; omega
abbrev APs : List Nat := [65,66,67,68,69,70,71,72,73,74,75,76,77,78,79,80]
theorem pickedAP0 : ∀ m : Fin 16, KBy.picked (byt APs) (some (m.val : Int)) (some ((m.val : Int) + 1)) = byt [65 + m.val] := by decide +kernel
theorem pickedAP (n : Nat) : KBy.picked (byt APs) (some ((n : Int).fmod 16)) (some ((n : Int).fmod 16 + 1)) = byt [65 + n % 16] := by
  rw [fmod16]; exact pickedAP0 ⟨n % 16, Nat.mod_lt _ (by decide)⟩
section
variable {w : World} {p : Program} {loose : List Str} {mg mb : Str → Option Value} {dp un : Nat} {fr : Option (List Env)} {gd : Option (List Code)} {s : Shared} {Q E : Value → Shared → Prop}
theorem Int2AP_spec {n : Nat} {t : Tok} (H : Here w p loose mg mb s.heap) (hd : dp + 20 < 1000) (hn : n < 16 ^ 5)
    (ret : Ret s Q (fun v _ => ∃ t, v = .bytes (byt (apF 5 n)) t)) : wpAny (model PW w) (au dp un fr gd) (call (.ref 52) [.int (n : Int) t]) Q E s := by
  have hrl : recursionLimit = 1000 := rfl
  k_dflt (refine' enterP (binds := [((PySem.Str.ofString "num"), .int (n : Int) t)]) (mm := fun y_ => List.lookup y_ [((PySem.Str.ofString "num"), .int (n : Int) t)]) (Here.X (by assumption)) (Here.T (by assumption)) ?k6 ?k7 ?k8 ?k9 ?kB ?hm ?_ ?c2 ?c3 ?c4 ?c5; (case k6 => k_is); (case k7 => k_is); (case k8 => (dsimp only; omega)); (case k9 => exact BindsTo.of_eq rfl); (case kB => exact locs rfl); (case hm => exact rfl); (case c5 => decide); (case c2 => exact rfl); (case c3 => exact rfl); (case c4 => exact rfl))
  intro L' h' F' N' X' T'
  k_fold
  walk_at "STEPSW"
  refine while_my (fun k s' => ∃ h' tk tn tv ta nn l u, s' = { s with heap := h', toks := tk } ∧
    Fr s.heap L' h' (loc [("num", .int ((nn : Nat) : Int) tn), ("val", .bytes (byt l) tv), ("AP", .bytes (byt APs) ta)] u) ∧
    apF 5 n = apF k nn ++ l ∧ nn < 16 ^ k ∧ l.length + k ≤ 5) ?turn 5 ?start
  case start =>
    (with_reducible rename Fr _ _ _ _ => kF)
    have e : (if (n : Int) < 0 then -(n : Int) else n) = n := if_neg (by omega)
    rw [e] at kF
    exact ⟨_, _, _, _, _, n, [], _, rfl, fr_loc kF _ ⟨rfl, rfl, rfl, trivial⟩, by simp, hn, by simp⟩
  · rintro k s' ⟨h', tk, tn, tv, ta, nn, l, u, rfl, F', hl, hk, hlen⟩
    have N' : News s.heap L' h' [] := News.nil
    walk_at "STEPSW"
    · (with_reducible rename Fr _ _ _ _ => kF)
      (with_reducible rename News _ _ _ _ => kN)
      refine KBc.slice_K (s := ⟨_, _, _, _, _⟩) kF kN rfl (by constructor) (by constructor) (by decide) ?_
      intro _ _ _ _ _ kc
      walk_at "STEPSW"
      rw [pickedAP]
      refine KBy.add_bytes (by simp [byt]; omega) ?_
      intro _ _
      dsimp only
      walk_at "STEPSW"
      (with_reducible rename Fr _ _ _ _ => kF)
      have hn0 : nn ≠ 0 := by omega
      have eb : byt [65 + nn % 16] ++ byt l = byt ((65 + nn % 16) :: l) := by simp [byt]
      rw [fdiv16, eb] at kF
      obtain ⟨k', rfl⟩ : ∃ k', k = k' + 1 := ⟨k - 1, by cases k with | zero => (simp at hk; omega) | succ k => rfl⟩
      refine ⟨k', Nat.lt_succ_self _, _, _, _, _, _, nn / 16, (65 + nn % 16) :: l, _, rfl, fr_loc kF _ ⟨rfl, rfl, rfl, trivial⟩, ?_, ?_, ?_⟩
      · rw [hl, apF_pos hn0]; simp
      · rw [Nat.pow_succ] at hk; omega
      · simp; omega
    · walk_at "DONE"
      rename_i h0
      have h1 : nn = 0 := by simpa using h0
      subst h1
      exact ⟨_, by rw [hl, apF_zero]; rfl⟩
end
theorem apF_mem : ∀ (k n c : Nat), c ∈ apF k n → 65 ≤ c ∧ c < 81
  | 0, _, _, h => nomatch h
  | k + 1, n, c, h => by
    by_cases hn : n = 0
    · subst hn; rw [apF_zero] at h; cases h
    · rw [apF_pos hn] at h
      rcases List.mem_append.mp h with h | h
      · exact apF_mem k _ c h
      · rw [List.mem_singleton.mp h]; omega
theorem apF_len : ∀ (k n : Nat), (apF k n).length ≤ k
  | 0, _ => Nat.le_refl _
  | k + 1, n => by
    by_cases hn : n = 0
    · subst hn; rw [apF_zero]; exact Nat.zero_le _
    · rw [apF_pos hn, List.length_append, List.length_singleton]; exact Nat.succ_le_succ (apF_len k _)
theorem byt_get {l : List Nat} (hl : ∀ c ∈ l, c < 256) {i : Nat} {c : UInt8} (h : (byt l)[i]? = some c) : l[i]? = some c.toNat := by
  unfold byt at h
  rw [List.getElem?_toArray, List.getElem?_map] at h
  cases q : l[i]? with
  | none => rw [q] at h; cases h
  | some d =>
    rw [q] at h
    have hd := hl d (List.mem_of_getElem? q)
    simp only [Option.map_some, Option.some.injEq] at h
    subst h
    rw [show d.toUInt8.toNat = d from by simp [Nat.toUInt8, UInt8.toNat_ofNat', Nat.mod_eq_of_lt hd]]
/-- a list of one-sign texts -/
theorem strs_of {ys : List Value} : ∀ {l : List Nat} , ys.length = l.length → (∀ (j : Nat) (y : Value), ys[j]? = some y → ∃ c t, l[j]? = some c ∧ y = Value.str ⟨#[c]⟩ t) → StrsAre ys (l.map fun c => ⟨#[c]⟩) := by
  induction ys with
  | nil =>
    intro l hl _
    cases l with
    | nil => exact .nil
    | cons _ _ => cases hl
  | cons y ys ih =>
    intro l hl h
    cases l with
    | nil => cases hl
    | cons c l =>
      obtain ⟨c', t, e, rfl⟩ := h 0 y (by simp)
      simp at e; subst e
      exact .cons _ _ (ih (by simpa using hl) fun j z hz => h (j + 1) z (by simpa using hz))
theorem join_ones : ∀ l : List Nat, PySem.Str.join (Str.ofString "") (l.map fun c => (⟨#[c]⟩ : Str)) = ⟨l.toArray⟩
  | [] => rfl
  | [c] => rfl
  | c :: d :: l => by
    show (⟨#[c]⟩ : Str) ++ Str.ofString "" ++ PySem.Str.join (Str.ofString "") ((d :: l).map fun c => (⟨#[c]⟩ : Str)) = _
    rw [join_ones (d :: l)]
    refine PySem.Str.ext' ?_
    rw [PySem.Str.cps_append, PySem.Str.cps_append]
    show (#[c] ++ #[]) ++ (d :: l).toArray = _
    simp
theorem sum_ones (l : List Nat) : ((l.map fun c => (⟨#[c]⟩ : Str)).map (·.length)).sum = l.length := by
  induction l with
  | nil => rfl
  | cons c l ih => simp only [List.map_cons, List.sum_cons, ih, List.length_cons]; show 1 + l.length = _; omega
section
variable {w : World} {p : Program} {loose : List Str} {mg mb : Str → Option Value} {dp un : Nat} {fr : Option (List Env)} {gd : Option (List Code)} {s : Shared} {Q E : Value → Shared → Prop}
theorem law_word_spec {n : Nat} {t : Tok} (H : Here w p loose mg mb s.heap) (hd : dp + 30 < 1000) (hn : n < 16 ^ 5)
    (ret : Ret s Q (fun v _ => ∃ t, v = .str ⟨(apF 5 n).toArray⟩ t)) : wpAny (model PW w) (au dp un fr gd) (call (.ref 243) [.int (n : Int) t]) Q E s := by
  have hrl : recursionLimit = 1000 := rfl
  k_dflt (refine' enterP (binds := [((PySem.Str.ofString "number"), .int (n : Int) t)]) (mm := fun y_ => List.lookup y_ [((PySem.Str.ofString "number"), .int (n : Int) t)]) (Here.X (by assumption)) (Here.T (by assumption)) ?k6 ?k7 ?k8 ?k9 ?kB ?hm ?_ ?c2 ?c3 ?c4 ?c5; (case k6 => k_is); (case k7 => k_is); (case k8 => (dsimp only; omega)); (case k9 => exact BindsTo.of_eq rfl); (case kB => exact locs rfl); (case hm => exact rfl); (case c5 => decide); (case c2 => exact rfl); (case c3 => exact rfl); (case c4 => exact rfl))
  intro L' h' F' N' X' T'
  k_fold
  walk_at "STEPSW"
  refine compE s.heap rfl (by decide) rfl (by decide) ?_
  walk_at "STEPSW"
  refine' Int2AP_spec ?h1 ?h2 hn ?_
  case h1 => walk_at "HERE"
  case h2 => walk_at "ROOM"
  intro v9 h9 tk9 ext9 pv9
  (with_reducible rename Fr _ _ _ _ => kF)
  (with_reducible rename News _ _ _ _ => kN)
  replace kF := frExt kF ext9
  replace kN := newsExt kN ext9
  (try dsimp only at kF kN)
  obtain ⟨t9, rfl⟩ := pv9
  dsimp only
  refine KBw.pyIter_bytes ?_
  refine compFresh (fun i y oo => oo = none ∧ ∃ c t, (apF 5 n)[i]? = some c ∧ y = .str ⟨#[c]⟩ t) kF kN rfl (KBw.walks rfl _ _ _) (GoOk.name fun _ => rfl) ?sz ?ob ?fp ⟨_, Heap.get?_push_size _ rfl, rfl, rfl⟩ ?elt ?done
  case ob => rintro i h ⟨o, e, _⟩; exact ⟨o, e⟩
  case fp => intro b hb; exact .inl (List.mem_singleton.mp hb)
  case sz =>
    have := apF_len 5 n
    show (byt (apF 5 n)).size ≤ 2 ^ 24
    simp only [byt, List.size_toArray, List.length_map]; omega
  case elt =>
    rintro i v C m₃ h tk own hi ⟨c, u, hc, rfl⟩ hLC g0 gn F N
    clear kF kN ext9
    have hc' := byt_get (fun c hc => by have := apF_mem _ _ _ hc; omega) hc
    have X9 : (Mine.hd.heap_39 w.params).In (hideAll _ _) := H.X.keeps g0
    have T9 : TopRead p loose mg mb (hideAll _ _) := H.T.keeps g0
    refine wpAny_assign_Name ?_
    walk_at "STEPSW"
    have := c.toNat_lt
    refine chr_of_range (by omega) (by omega) ?_
    (with_reducible rename Fr _ _ _ _ => kF)
    (with_reducible rename News _ _ _ _ => kN)
    exact ⟨_, _, _, none, rfl, kF, kN, ⟨rfl, _, _, hc', rfl⟩, trivial⟩
  case done =>
    intro D h' tk ys els F N he hD hl hy
    (try dsimp only at F N)
    clear kF kN ext9
    have hs := strs_of (l := apF 5 n) (by rw [hl]; simp [byt]) fun j y hj => by obtain ⟨_, ⟨_, r⟩, _⟩ := hy j y hj; exact r
    walk_at "STEPSW"
    have := apF_len 5 n
    refine join_list (ys := _) (items := ys.toArray) ⟨_, (N (D, LCg.lst ys) (by simp)).1, rfl, _, rfl⟩ (by simpa using hs) (by rw [sum_ones, show (Str.ofString "").length = 0 from rfl]; omega) ?_
    intro t' k'
    walk_at "DONE"
    exact ⟨_, congrArg (fun z => Value.str z _) ((show Txt.join _ _ = _ from StrLaws.glued_eq_join _ _).trans (join_ones _))⟩
end
theorem bitOr_nat (a b : Nat) : Builtin.bitOr (a : Int) (b : Int) = ((a ||| b : Nat) : Int) := by
  have e : ∀ k : Nat, Builtin.bitNot (k : Int) = -(k : Int) - 1 := fun k => by unfold Builtin.bitNot; omega
  unfold Builtin.bitOr Builtin.bitAnd
  rw [e, e]
  have h1 : decide (0 ≤ -(a : Int) - 1) = false := decide_eq_false (by omega)
  have h2 : decide (0 ≤ -(b : Int) - 1) = false := decide_eq_false (by omega)
  rw [h1, h2]
  dsimp only
  have n1 : Builtin.bitNot (-(a : Int) - 1) = a := by unfold Builtin.bitNot; omega
  have n2 : Builtin.bitNot (-(b : Int) - 1) = b := by unfold Builtin.bitNot; omega
  rw [n1, n2]
  simp only [Int.toNat_natCast]
  generalize (a ||| b) = k
  unfold Builtin.bitNot; omega
theorem bitAnd_nat (a b : Nat) : Builtin.bitAnd (a : Int) (b : Int) = ((a &&& b : Nat) : Int) := by
  unfold Builtin.bitAnd
  have h1 : decide (0 ≤ (a : Int)) = true := decide_eq_true (by omega)
  have h2 : decide (0 ≤ (b : Int)) = true := decide_eq_true (by omega)
  rw [h1, h2]; rfl
/-- a word read as a number to the base 16 -/
def rd (l : List Nat) (n : Nat) : Nat := l.foldl (fun n c => n * 16 + (c - 65)) n
theorem rd_snoc (l : List Nat) (c n : Nat) : rd (l ++ [c]) n = rd l n * 16 + (c - 65) := by simp [rd]
theorem rd_append (l k : List Nat) (n : Nat) : rd (l ++ k) n = rd k (rd l n) := by simp [rd]
def Sign (c : Nat) : Prop := 65 ≤ c ∧ c < 81
theorem or16 (n c : Nat) (hc : Sign c) : Builtin.bitOr ((n : Int) * 2 ^ (4 : Int).toNat) ((c : Int) - 65) = ((n * 16 + (c - 65) : Nat) : Int) := by
  have h1 : (n : Int) * 2 ^ (4 : Int).toNat = ((n * 16 : Nat) : Int) := by rw [show (2 : Int) ^ (4 : Int).toNat = 16 from rfl]; omega
  have h2 : (c : Int) - 65 = ((c - 65 : Nat) : Int) := by have := hc.1; omega
  rw [h1, h2, bitOr_nat]
  have := Nat.two_pow_add_eq_or_of_lt (i := 4) (b := c - 65) (by have := hc.2; omega) n
  rw [Nat.mul_comm n 16, ← this]
theorem rd_lt : ∀ (l : List Nat) (n k : Nat), (∀ c ∈ l, Sign c) → n < 16 ^ k → rd l n < 16 ^ (k + l.length)
  | [], n, k, _, h => h
  | c :: l, n, k, hl, h => by
    have hc := hl c List.mem_cons_self
    have := rd_lt l (n * 16 + (c - 65)) (k + 1) (fun d hd => hl d (List.mem_cons_of_mem _ hd)) (by rw [Nat.pow_succ]; have := hc.2; omega)
    rw [List.length_cons, show k + (l.length + 1) = k + 1 + l.length by omega]
    exact this
theorem rd_apF : ∀ k n, n < 16 ^ k → rd (apF k n) 0 = n
  | 0, n, h => by simp at h; subst h; rfl
  | k + 1, n, h => by
    by_cases hn : n = 0
    · subst hn; rw [apF_zero]; rfl
    · rw [apF_pos hn, rd_snoc, rd_apF k (n / 16) (by rw [Nat.pow_succ] at h; omega)]; omega
theorem take_snoc {l : List Nat} {i c : Nat} (h : l[i]? = some c) : l.take (i + 1) = l.take i ++ [c] := by rw [List.take_add_one, h]; rfl
section
variable {w : World} {p : Program} {loose : List Str} {mg mb : Str → Option Value} {dp un : Nat} {fr : Option (List Env)} {gd : Option (List Code)} {s : Shared} {Q E : Value → Shared → Prop}
theorem law_read_spec {l : List Nat} {t : Tok} (H : Here w p loose mg mb s.heap) (hd : dp + 30 < 1000) (hl : ∀ c ∈ l, Sign c) (hn : l.length ≤ 8)
    (ret : Ret s Q (fun v _ => ∃ t, v = .int ((rd l 0 : Nat) : Int) t)) : wpAny (model PW w) (au dp un fr gd) (call (.ref 250) [.str ⟨l.toArray⟩ t]) Q E s := by
  have hrl : recursionLimit = 1000 := rfl
  k_dflt (refine' enterP (binds := [((PySem.Str.ofString "word"), .str ⟨l.toArray⟩ t)]) (mm := fun y_ => List.lookup y_ [((PySem.Str.ofString "word"), .str ⟨l.toArray⟩ t)]) (Here.X (by assumption)) (Here.T (by assumption)) ?k6 ?k7 ?k8 ?k9 ?kB ?hm ?_ ?c2 ?c3 ?c4 ?c5; (case k6 => k_is); (case k7 => k_is); (case k8 => (dsimp only; omega)); (case k9 => exact BindsTo.of_eq rfl); (case kB => exact locs rfl); (case hm => exact rfl); (case c5 => decide); (case c2 => exact rfl); (case c3 => exact rfl); (case c4 => exact rfl))
  intro L' h' F' N' X' T'
  k_fold
  walk_at "STEPSW"
  refine forG s.heap ?_
  walk_at "STEPSW"
  refine pyIter_strO fun o St hW hst _ hob => ?_
  (with_reducible rename Fr _ _ _ _ => kF)
  (with_reducible rename News _ _ _ _ => kN)
  refine loopFresh (fun i m nx => nx = [] ∧ ∃ tn u, m = loc [("number", .int ((rd (l.take i) 0 : Nat) : Int) tn)] u) (fr_loc kF [("number", .int 0 _)] ⟨rfl, trivial⟩) kN (hW _ rfl) (GoOk.name fun _ => rfl) hob ?fp hst ⟨rfl, _, _, rfl⟩ ?step ?done
  case fp => intro b hb; exact .inl (List.mem_singleton.mp hb)
  case step =>
    rintro i v m₁ nx h tk own hi ⟨c, u, hc, rfl⟩ ⟨rfl, tn, u', rfl⟩ hoff F N
    clear kF kN
    have hc' : l[i]? = some c := by simpa using hc
    have hcl := hl c (List.mem_of_getElem? hc')
    refine wpAny_assign_Name ?_
    walk_at "STEPSW"
    refine' lshift_spec ?h1 ?h2 (by decide) (by decide) ?h3 ?_
    case h1 => walk_at "HERE"
    case h2 => walk_at "ROOM"
    case h3 =>
      have h9 := rd_lt (l.take i) 0 0 (fun d hd => hl d (List.mem_of_mem_take hd)) (by decide)
      have h8 : (l.take i).length ≤ 8 := by rw [List.length_take]; omega
      have h7 : 16 ^ (0 + (l.take i).length) ≤ 16 ^ 8 := Nat.pow_le_pow_right (by decide) (by omega)
      rw [Int.natAbs_natCast]
      have : (16 : Nat) ^ 8 < 2 ^ 64 := by decide
      omega
    intro v9 h9 tk9 ext9 pv9
    (with_reducible rename Fr _ _ _ _ => kF)
    (with_reducible rename News _ _ _ _ => kN)
    replace kF := frExt kF ext9
    replace kN := newsExt kN ext9
    (try dsimp only at kF kN)
    obtain ⟨t9, rfl⟩ := pv9
    walk_at "STEPSW"
    refine' sub_spec ?h1 ?h2 ?_
    case h1 => walk_at "HERE"
    case h2 => walk_at "ROOM"
    intro v9 h9 tk9 ext9 pv9
    (with_reducible rename Fr _ _ _ _ => kF)
    (with_reducible rename News _ _ _ _ => kN)
    replace kF := frExt kF ext9
    replace kN := newsExt kN ext9
    (try dsimp only at kF kN)
    obtain ⟨t8, rfl⟩ := pv9
    walk_at "STEPSW"
    refine' or_spec ?h1 ?h2 ?_
    case h1 => walk_at "HERE"
    case h2 => walk_at "ROOM"
    intro v9 h9 tk9 ext9 pv9
    (with_reducible rename Fr _ _ _ _ => kF)
    (with_reducible rename News _ _ _ _ => kN)
    replace kF := frExt kF ext9
    replace kN := newsExt kN ext9
    (try dsimp only at kF kN)
    obtain ⟨t7, rfl⟩ := pv9
    walk_at "STEPSW"
    (with_reducible rename Fr _ _ _ _ => kF)
    (with_reducible rename News _ _ _ _ => kN)
    rw [or16 _ _ hcl, ← rd_snoc, ← take_snoc hc'] at kF
    exact ⟨_, _, _, [], rfl, fr_loc kF [("number", .int ((rd (l.take (i + 1)) 0 : Nat) : Int) _)] ⟨rfl, trivial⟩, kN, fun _ _ _ h => (nomatch h), rfl, _, _, rfl⟩
  case done =>
    rintro h tk m' nx F N ⟨rfl, tn, u, rfl⟩
    clear kF kN
    walk_at "STEPSW"
    walk_at "DONE"
    exact ⟨tn, by rw [List.size_toArray, List.take_length]⟩
end
open PySem.Builtin.Re
def Clean (x : Str) : Prop := ∀ c ∈ x.cps.toList, 32 ≤ c ∧ c < 127
theorem pa_pat : PlainAttrs "re.Pattern" :=
  ⟨⟨"object.__getattribute__", by rw [typeLookup_type, builtinLookup_eq_fast]; kernel_rfl, by decide +kernel⟩, by rw [typeLookup_type, builtinLookup_eq_fast]; kernel_rfl⟩
theorem slot_pat : Slot "re.Pattern" "search" "re.Pattern.search" :=
  .of (owner := "re.Pattern") (n := "search") (by rw [typeLookup_type, builtinLookup_eq_fast]; kernel_rfl) (by decide +kernel) (by decide +kernel) (by decide +kernel)
    (by first | exact .inl (by decide +kernel) | exact .inr (by decide +kernel)) (by rw [isSubtype_type]; kernel_rfl)
theorem type_pat : typeOf (.builtin "re.Pattern.search") = pure (.type "method_descriptor") := by show builtinType _ = _; rw [builtinType_eq_fast]; kernel_rfl
theorem entry_pat : entryFor table "re.Pattern.search" = some Builtin.«re.Pattern.search» := entryFor_of_tree (by kernel_rfl)
theorem args_pat (a b : Value) : argsOk "re.Pattern.search" ⟨[a, b], []⟩ := by unfold argsOk; kernel_rfl
abbrev codeN : Array Nat := #[14, 10, 4, 1, 1, 22, 0, 31, 16, 127, 0, 13, 7, 22, 0, 31, 16, 127, 0, 1]
abbrev codeV : Array Nat := #[14, 14, 4, 1, 1, 9, 4294966783, 0, 0, 2147483648, 0, 0, 0, 0, 0, 13, 11, 9, 4294966783, 0, 0, 2147483648, 0, 0, 0, 0, 0, 1]
theorem pat_of {K : Frag} {a : Addr} (e : (K.lookup a).map (fun o => (o.cls, o.dict)) = some (.type "re.Pattern", none)) : ∃ o, K.lookup a = some o ∧ o.cls = .type "re.Pattern" ∧ o.dict = none := by
  obtain ⟨o, h1, h2⟩ := Option.map_eq_some_iff.mp e
  exact ⟨o, h1, congrArg Prod.fst h2, congrArg Prod.snd h2⟩
theorem pat106 (P : Params) : ∃ o, (hd.heap_39 P).lookup 106 = some o ∧ o.cls = .type "re.Pattern" ∧ o.dict = none := pat_of (by kernel_rfl)
theorem pat111 (P : Params) : ∃ o, (hd.heap_39 P).lookup 111 = some o ∧ o.cls = .type "re.Pattern" ∧ o.dict = none := pat_of (by kernel_rfl)
theorem targetN (P : Params) (x : Str) (t : Tok) : peek (hd.heap_39 P) ⟨PW, P⟩ (reTarget "re.Pattern.search" "search" ⟨[.ref 106, .str x t], []⟩) =
    some { pattern := .ref 106, string := .str x t, code := codeN, text := x.cps, kind := 0, groups := 0, pos := min (0 : Int).toNat x.cps.size, lim := min (2 ^ 63 - 1 : Int).toNat x.cps.size } := by kernel_rfl
theorem targetV (P : Params) (x : Str) (t : Tok) : peek (hd.heap_39 P) ⟨PW, P⟩ (reTarget "re.Pattern.search" "search" ⟨[.ref 111, .str x t], []⟩) =
    some { pattern := .ref 111, string := .str x t, code := codeV, text := x.cps, kind := 0, groups := 0, pos := min (0 : Int).toNat x.cps.size, lim := min (2 ^ 63 - 1 : Int).toNat x.cps.size } := by kernel_rfl
open PySem.Sre in
theorem setN {c : Nat} (h1 : 32 ≤ c) (h2 : c < 127) (seen : Sre.Seen) : ∃ seen', inSet codeN c codeN.size 5 true seen = .ok (false, seen') := by
  refine ⟨((seen.add 22).add 16).add 0, ?_⟩
  have a1 : (decide (0 ≤ c) && decide (c ≤ 31)) = false := by rw [decide_eq_false (by omega : ¬ c ≤ 31), Bool.and_false]
  have a2 : (c == 127) = false := by rw [beq_eq_false_iff_ne]; omega
  show (if (decide (0 ≤ c) && decide (c ≤ 31)) = true then _ else _) = _
  rw [a1, if_neg Bool.false_ne_true]
  show (if (c == 127) = true then _ else _) = _
  rw [a2, if_neg Bool.false_ne_true]
  rfl
theorem setV0 : ∀ c : Fin 127, 32 ≤ c.val → (codeV.getD (5 + (1 + c.val / 32)) 0).testBit (c.val % 32) = false := by decide +kernel
open PySem.Sre in
theorem setV {c : Nat} (h1 : 32 ≤ c) (h2 : c < 127) (seen : Sre.Seen) : ∃ seen', inSet codeV c codeV.size 5 true seen = .ok (false, seen') := by
  refine ⟨(seen.add 9).add 0, ?_⟩
  have a1 : (decide (c < 256) && (codeV.getD (5 + (1 + c / 32)) 0).testBit (c % 32)) = false := by rw [setV0 ⟨c, h2⟩ h1, Bool.and_false]
  show (if (decide (c < 256) && (codeV.getD (5 + (1 + c / 32)) 0).testBit (c % 32)) = true then _ else _) = _
  rw [a1, if_neg Bool.false_ne_true]
  rfl
open PySem.Sre in
theorem admitted_none {m : M} (hs : ∀ c, 32 ≤ c → c < 127 → ∀ seen : Sre.Seen, ∃ seen', inSet m.code c m.code.size 5 true seen = .ok (false, seen')) (ht : ∀ i, i < m.lim → 32 ≤ m.text.getD i 0 ∧ m.text.getD i 0 < 127) :
    ∀ (fuel k : Nat) (seen : Sre.Seen), ∃ seen', M.admitted m fuel k seen = .ok (none, seen')
  | 0, _, seen => ⟨seen, rfl⟩
  | fuel + 1, k, seen => by
    unfold M.admitted
    by_cases hk : k ≥ m.lim
    · exact ⟨seen, if_pos hk⟩
    · rw [if_neg hk]
      obtain ⟨h1, h2⟩ := ht k (by omega)
      obtain ⟨seen', e⟩ := hs _ h1 h2 seen
      rw [e]
      exact admitted_none hs ht fuel (k + 1) seen'
open PySem.Sre in
theorem from_says {code text : Array Nat} (hs : ∀ c, 32 ≤ c → c < 127 → ∀ seen : Sre.Seen, ∃ seen', inSet code c code.size 5 true seen = .ok (false, seen')) (ht : ∀ i, i < text.size → 32 ≤ text.getD i 0 ∧ text.getD i 0 < 127)
    (m : M) (h1 : m.code = code) (h2 : m.text = text) (h3 : m.lim = text.size) (h4 : m.outcome = none) (h5 : m.frames = []) (h6 : m.hasFirstSet = true) :
    ∃ m' : M, m.attemptFrom 0 true = m'.say false ∧ m'.outcome = none ∧ m'.frames = [] := by
  unfold M.attemptFrom
  rw [h6]
  obtain ⟨seen', e⟩ := admitted_none (m := m) (by rw [h1]; exact hs) (by rw [h2, h3]; exact ht) (m.lim + 1 - 0) 0 m.seen
  rw [e]
  exact ⟨{ m with seen := seen' }, rfl, h4, h5⟩
open PySem.Sre in
theorem search_says {code text : Array Nat} (hc : ∀ m : M, m.code = code → m.hasFirstSet = true) (hs : ∀ c, 32 ≤ c → c < 127 → ∀ seen : Sre.Seen, ∃ seen', inSet code c code.size 5 true seen = .ok (false, seen')) (ht : ∀ i, i < text.size → 32 ≤ text.getD i 0 ∧ text.getD i 0 < 127) :
    ∃ m : M, forSearch code text 0 0 text.size false = m.say false ∧ m.outcome = none ∧ m.frames = [] := by
  unfold forSearch
  dsimp only
  split
  · exact ⟨_, rfl, rfl, rfl⟩
  · exact from_says hs ht _ rfl rfl rfl rfl rfl (hc _ rfl)
theorem first_of {code : Array Nat} (h1 : (match Sre.ops[code.getD 0 0]? with | some .INFO => true | _ => false) = true) (h2 : (code.getD 2 0 == 4) = true) (m : Sre.M) (e : m.code = code) : m.hasFirstSet = true := by
  unfold Sre.M.hasFirstSet
  rw [e, h2, Bool.and_true]; exact h1
open PySem.Sre in
theorem run4 (m : M) (h1 : m.outcome = none) (h2 : m.frames = []) : ∃ m' : M, (m.say false).runFor 4 = m' ∧ m'.outcome = some .failed := by
  refine ⟨_, rfl, ?_⟩
  obtain ⟨code, text, lim, start, lastStart, wholeText, mustAdvance, pc, pos, handed, outermost, marks, lastmark, lastindex, loops, inner, frames, weight, answer, seen, outcome⟩ := m
  cases h1
  cases h2
  rfl
section
variable {M : Model} {A : Around} {E : Value → Shared → Prop} {s : Shared}
theorem wpAny_rules {l : List Nat} {c : Nat → Bool} {n : Nat → String} {Q : Unit → Shared → Prop} (h : Q () s) :
    wpAny M A (forIn l PUnit.unit fun i _ => if c i = true then (do rule (n i); pure (ForInStep.yield PUnit.unit)) else pure (ForInStep.yield PUnit.unit)) Q E s := by
  induction l with
  | nil => exact wpAny_pure h
  | cons i l ih =>
    rw [List.forIn_cons]
    refine wpAny_bind ?_
    cases hc : c i with
    | true =>
      rw [if_pos rfl]
      exact wpAny_bind (wpAny_rule (wpAny_pure ih))
    | false =>
      rw [if_neg Bool.false_ne_true]
      exact wpAny_pure ih
theorem runToEnd {m : Sre.M} {Q : Option Sre.M → Shared → Prop} (h1 : m.outcome = none) (h2 : m.frames = []) (h : Q none s) : wpAny M A (reRunToEnd (m.say false)) Q E s := by
  unfold reRunToEnd
  obtain ⟨m', e, ho⟩ := run4 m h1 h2
  refine wpAny_bind ?_
  show wpAny M A (reDrive (2 ^ 64 - 1 + 1) (m.say false)) _ _ s
  unfold reDrive
  show wpAny M A (if ((m.say false).runFor 4).outcome.isSome = true then pure ((m.say false).runFor 4) else _) _ _ s
  rw [e, ho]
  simp only [Option.isSome_some, if_true]
  refine wpAny_pure ?_
  refine wpAny_bind (wpAny_rules ?_)
  rw [ho]
  exact wpAny_pure h
end
section
variable {w : World} {p : Program} {loose : List Str} {mg mb : Str → Option Value} {A : Around} {h₀ : Heap} {L : Addr} {m : Str → Option Value} {s : Shared} {Q E : Value → Shared → Prop}
theorem clean_at {x : Str} (hx : Clean x) : ∀ i, i < x.cps.size → 32 ≤ x.cps.getD i 0 ∧ x.cps.getD i 0 < 127 := fun i hi => by
  refine hx _ ?_
  rw [Array.getD_eq_getD_getElem?, Array.getElem?_eq_getElem hi]
  simp
theorem searchN {x : Str} {t : Tok} (X : (hd.heap_39 w.params).In s.heap) (hx : Clean x) (hl : x.cps.size < 1000) (h : ∀ k, Q .none { s with toks := k }) :
    wpAny (model PW w) A (call (.builtin "re.Pattern.search") [.ref 106, .str x t]) Q E s := by
  obtain ⟨o, ho, hc, _⟩ := pat106 w.params
  refine wpAny_call_entry slot_pat ⟨_, X 106 _ ho, hc⟩ entry_pat ?_ (args_pat _ _)
  show wpAny _ _ (reTarget "re.Pattern.search" "search" ⟨[.ref 106, .str x t], []⟩ >>= fun t => reAnswer t (Sre.forSearch t.code t.text t.groups t.pos t.lim false)) _ _ s
  refine wpAny_bind ((Looks.of_peek X (targetN w.params x t)).here ?_)
  dsimp only
  rw [show min (0 : Int).toNat x.cps.size = 0 from Nat.zero_min _, show min (2 ^ 63 - 1 : Int).toNat x.cps.size = x.cps.size from Nat.min_eq_right (by show _ ≤ (2 ^ 63 - 1 : Int).toNat; omega)]
  obtain ⟨m', e, h1, h2⟩ := search_says (code := codeN) (text := x.cps) (first_of rfl rfl) (fun c a b seen => setN a b seen) (clean_at hx)
  rw [e]
  unfold reAnswer
  refine wpAny_bind (runToEnd h1 h2 ?_)
  exact wpAny_pure ⟨_, rfl, h _⟩
theorem searchV {x : Str} {t : Tok} (X : (hd.heap_39 w.params).In s.heap) (hx : Clean x) (hl : x.cps.size < 1000) (h : ∀ k, Q .none { s with toks := k }) :
    wpAny (model PW w) A (call (.builtin "re.Pattern.search") [.ref 111, .str x t]) Q E s := by
  obtain ⟨o, ho, hc, _⟩ := pat111 w.params
  refine wpAny_call_entry slot_pat ⟨_, X 111 _ ho, hc⟩ entry_pat ?_ (args_pat _ _)
  show wpAny _ _ (reTarget "re.Pattern.search" "search" ⟨[.ref 111, .str x t], []⟩ >>= fun t => reAnswer t (Sre.forSearch t.code t.text t.groups t.pos t.lim false)) _ _ s
  refine wpAny_bind ((Looks.of_peek X (targetV w.params x t)).here ?_)
  dsimp only
  rw [show min (0 : Int).toNat x.cps.size = 0 from Nat.zero_min _, show min (2 ^ 63 - 1 : Int).toNat x.cps.size = x.cps.size from Nat.min_eq_right (by show _ ≤ (2 ^ 63 - 1 : Int).toNat; omega)]
  obtain ⟨m', e, h1, h2⟩ := search_says (code := codeV) (text := x.cps) (first_of rfl rfl) (fun c a b seen => setV a b seen) (clean_at hx)
  rw [e]
  unfold reAnswer
  refine wpAny_bind (runToEnd h1 h2 ?_)
  exact wpAny_pure ⟨_, rfl, h _⟩
theorem patMethod {a : Addr} {o : Obj} {pl : Sem Bool} {Q : Value × List Value → Shared → Prop} (ha : s.heap.get? a = some o) (hc : o.cls = .type "re.Pattern") (hd : o.dict = none) (h : Q (.builtin "re.Pattern.search", [.ref a]) s) :
    wpAny (model PW w) A (getMethod (.ref a) (Str.ofString "search") pl) Q E s :=
  getMethod_builtin ⟨_, ha, hc⟩ pa_pat slot_pat type_pat (fun b e => by cases e; exact ⟨o, ha, hd⟩) h
end
local macro_rules | `(tactic| walk_at "getMethod ref") => `(tactic| (k_here; first
  | ((with_reducible show wpAny _ _ (getMethod (Value.ref 106) _ _) _ _ _); (with_reducible rename Heap.get? _ 106 = some _ ∧ _ => hp9); refine patMethod (Fr.keep (by k_asm) _ _ hp9.1) hp9.2.1 hp9.2.2 ?_)
  | ((with_reducible show wpAny _ _ (getMethod (Value.ref 111) _ _) _ _ _); (with_reducible rename Heap.get? _ 111 = some _ ∧ _ => hp9); refine patMethod (Fr.keep (by k_asm) _ _ hp9.1) hp9.2.1 hp9.2.2 ?_)))
local macro_rules | `(tactic| walk_at "call builtin:re.Pattern.search") => `(tactic| (k_here; first
  | ((with_reducible show wpAny _ _ (call (Value.builtin _) [Value.ref 106, _]) _ _ _); (refine searchN (Frag.In.keeps (by k_asm) (Fr.keep (by k_asm))) (by assumption) (by assumption) ?_; intro _; (try dsimp only)))
  | ((with_reducible show wpAny _ _ (call (Value.builtin _) [Value.ref 111, _]) _ _ _); (refine searchV (Frag.In.keeps (by k_asm) (Fr.keep (by k_asm))) (by assumption) (by assumption) ?_; intro _; (try dsimp only)))))
section
variable {w : World} {p : Program} {loose : List Str} {mg mb : Str → Option Value} {dp un : Nat} {fr : Option (List Env)} {gd : Option (List Code)} {s : Shared} {Q E : Value → Shared → Prop}
theorem conv_spec {x : Str} {t : Tok} {b : Bool} {self : Value} (H : Here w p loose mg mb s.heap) (hd : dp + 10 < 1000) (hx : Clean x) (hl : x.cps.size < 1000)
    (ret : Ret s Q (fun v _ => v = .str x t)) : wpAny (model PW w) (au dp un fr gd) (call (.ref 133) [self, .str x t] [("name", .bool b)]) Q E s := by
  have hrl : recursionLimit = 1000 := rfl
  k_dflt (refine' enterP (binds := [((PySem.Str.ofString "self"), self), ((PySem.Str.ofString "value"), .str x t), ((PySem.Str.ofString "name"), .bool b)]) (mm := fun y_ => List.lookup y_ [((PySem.Str.ofString "name"), .bool b), ((PySem.Str.ofString "value"), .str x t), ((PySem.Str.ofString "self"), self)]) (Here.X (by assumption)) (Here.T (by assumption)) ?k6 ?k7 ?k8 ?k9 ?kB ?hm ?_ ?c2 ?c3 ?c4 ?c5; (case k6 => k_is); (case k7 => k_is); (case k8 => (dsimp only; omega)); (case k9 => exact BindsTo.of_eq rfl); (case kB => exact locs rfl); (case hm => exact rfl); (case c5 => decide); (case c2 => exact rfl); (case c3 => exact rfl); (case c4 => exact rfl))
  intro L' h' F' N' X' T'
  k_fold
  obtain ⟨o1, e1, c1, d1⟩ := pat106 w.params
  obtain ⟨o2, e2, c2, d2⟩ := pat111 w.params
  have hp1 : s.heap.get? 106 = some o1 ∧ o1.cls = .type "re.Pattern" ∧ o1.dict = none := ⟨H.X _ _ e1, c1, d1⟩
  have hp2 : s.heap.get? 111 = some o2 ∧ o2.cls = .type "re.Pattern" ∧ o2.dict = none := ⟨H.X _ _ e2, c2, d2⟩
  clear e1 e2
  walk_at "STEPSW"
  all_goals (walk_at "DONE"; rfl)
end
section
variable {prog : Program} {w : World} {A : Around} {s : Shared} {h₀ : Heap} {K : Frag} {name qual : Str} {params : Arguments} {body : List Stmt} {scope : Scope} {dV kV doc pm cdv ct oc : Value} {an od : Option Addr} {osl : Array (Option Value)} {f : Addr} {args : Args} {binds : List (Str × Value)} {mm : Str → Option Value} {R : Result → Shared → Prop}
theorem enterN {p : Program} {loose : List Str} {mg mb : Str → Option Value} (news : List (Addr × Obj)) (X₀ : K.In h₀) (T : TopRead p loose mg mb h₀) (xt : Ext h₀ s.heap) (N : ∀ q ∈ news, s.heap.get? q.1 = some q.2 ∧ h₀.get? q.1 = none)
    (ho : K.lookup f = some ⟨oc, od, .func (fnOf name qual params body scope dV kV doc pm an cdv ct), osl⟩) (hcd : codeIn K cdv qual = true) (hroom : A.depth < recursionLimit)
    (hbind : BindsTo s (fnOf name qual params body scope dV kV doc pm an cdv ct) args binds) (hloc : ∀ y ∈ binds, scope.names.lookup y.1 = some .local)
    (hmm : (fun y => binds.reverse.lookup y) = mm)
    (h : ∀ g L' h₁, Ext h₀ g → Ext g s.heap → (∀ b o, s.heap.get? b = some o → b ∉ news.map (·.1) → g.get? b = some o) → (∀ q ∈ news, q.1 < L') → Fr g L' h₁ mm → News g L' h₁ news → K.In g → TopRead p loose mg mb g →
      wpAny (model prog w) (A.deeper (envOf qual scope L' f cdv)) (execs body (envOf qual scope L' f cdv))
        (fun fl s' => R (.ok (.ret (match fl with | .ret v => v | _ => .none))) s') (fun _ _ => False) { s with heap := h₁, toks := s.toks + binds.length })
    (hco : scope.isCoroutine = false) (hgen : scope.isGenerator = false) (hk : scope.kind = .function)
    (hcell : ∀ x ∈ scope.names, x.2 ≠ .cell) : codeAny (model prog w) A (.call (.ref f) args) R s := by
  have X := X₀.keeps xt
  have gx : Ext h₀ (hideAll s.heap (news.map (·.1))) := fun b o e => hideAll_get _ (xt b o e) fun hb => by
    obtain ⟨q, hq, rfl⟩ := List.mem_map.mp hb
    rw [(N q hq).2] at e; cases e
  refine codeAny_call_def (fd := fnOf name qual params body scope dV kV doc pm an cdv ct) (body := body) (binds := binds) hroom (X _ _ ho) rfl (T.nolimit.keeps xt) (codeRec_of X hcd) rfl hbind hcell hloc (fun h₁ hns hk₁ => ?_) hco hgen hk
  subst hmm
  refine wpAny_mono (h (hideAll s.heap (news.map (·.1))) s.heap.objs.size h₁ gx (fun b o e => of_hideAll _ e) (fun b o e n => hideAll_get _ e n) (fun q hq => Heap.lt_size (N q hq).1) ⟨hns, fun b o e => hk₁ b o (of_hideAll _ e), Nat.le_of_eq (hideAll_size _ _)⟩
    (fun q hq => ⟨hk₁ _ _ (N q hq).1, Nat.ne_of_lt (Heap.lt_size (N q hq).1), hideAll_none _ (List.mem_map_of_mem hq)⟩) (X₀.keeps fun b o e => gx b o e) (T.keeps fun b o e => gx b o e)) (fun fl s' hl => hl) fun _ _ y => y.elim
theorem instOf {h : Heap} {x C dx : Addr} {od : Obj} (h1 : h.get? x = some (instObj C dx)) (h2 : h.get? dx = some od) : InstAt h x (instObj C dx) C (some od) := ⟨h1, rfl, rfl, h2⟩
end
section
variable {prog : Program} {w : World} {A : Around} {s : Shared} {env : Env} {h₀ : Heap} {m : Str → Option Value} {news : List (Addr × Obj)} {E : Value → Shared → Prop} {target : Expr} {body orelse : List Stmt} {Q : Flow → Shared → Prop}
theorem loopList {l : Addr} {vs : List Value} {nn : Nat} (J : Nat → (Str → Option Value) → List (Addr × Obj) → Prop) (hh : A.handled = none) (hgo : GoOk prog w A target s.heap.objs.size (fun i v => vs.toArray[i]? = some v) (fun i h => h.IsListIter s.heap.objs.size l i ∧ h.IsList l vs.toArray))
    (F : Fr h₀ env.locals s.heap m) (N : News h₀ env.locals s.heap news) (hl : (l, ({ cls := .type "list", data := .seq vs.toArray nn } : Obj)) ∈ news ∨ h₀.IsList l vs.toArray) (hJ : (∀ i m nx, J i m nx → (l, ({ cls := .type "list", data := .seq vs.toArray nn } : Obj)) ∈ nx) ∨ h₀.IsList l vs.toArray) (h0 : J 0 m news)
    (step : ∀ i v m₁ nx h tk own, i < vs.length → vs[i]? = some v → J i m₁ nx → OwnOff own (nx.map (·.1)) → Fr h₀ env.locals h m₁ → News h₀ env.locals h (nx ++ own) →
      wpAny (model prog w) A (assign target env v) (fun _ s₃ => wpAny (model prog w) A (execs body env) (fun f s₄ => match f with
        | .ret v => Q (.ret v) s₄
        | .brk => Q .next s₄
        | _ => ∃ h' tk' m' nx', s₄ = { s with heap := h', toks := tk' } ∧ Fr h₀ env.locals h' m' ∧ News h₀ env.locals h' (nx' ++ own) ∧ OwnOff own (nx'.map (·.1)) ∧ J (i + 1) m' nx') (fun _ _ => False) s₃) (fun _ _ => False) { s with heap := h, toks := tk })
    (done : ∀ h' tk m' nx, Fr h₀ env.locals h' m' → News h₀ env.locals h' nx → J vs.length m' nx → wpAny (model prog w) A (execs orelse env) Q (fun _ _ => False) { s with heap := h', toks := tk }) :
    wpAny (model prog w) A (pyIter (.ref l)) (fun it s₂ => LoopG prog w A h₀ env target body orelse Q (fun _ _ => False) it s₂) E s := by
  have hls : s.heap.IsList l vs.toArray := hl.elim (fun h => ⟨_, (N _ h).1, rfl, nn, rfl⟩) fun ⟨o, e, r⟩ => ⟨o, F.keep _ _ e, r⟩
  have hlt : l < s.heap.objs.size := let ⟨_, e, _⟩ := hls; Heap.lt_size e
  refine wpAny_pyIter_list hls ?_
  refine loopFresh J F N (Walks.list hh s.heap.objs.size l (Nat.ne_of_lt hlt) vs.toArray) hgo (fun i h hs => let ⟨⟨o, e, _⟩, _⟩ := hs; ⟨o, e⟩) (fun b hb => ?_) ⟨⟨_, Heap.get?_push_size _ rfl, rfl, rfl⟩, hls.at fun o e => Heap.get?_push_of_some _ e⟩ h0
    (fun i v m₁ nx h tk own hi hP => step i v m₁ nx h tk own (by simpa using hi) (by simpa using hP)) (fun h' tk m' nx F' N' hJ' => done h' tk m' nx F' N' (by simpa using hJ'))
  rcases List.mem_cons.mp hb with e | hb
  · exact .inl e
  · rw [List.mem_singleton.mp hb]
    rcases hJ with h | ⟨o, e, _⟩
    · exact .inr (.inr ⟨_, h⟩)
    · exact .inr (.inl ⟨o, e⟩)
theorem compList {elt : Expr} {scope : Scope} {cl : List (Str × Addr)} {up : Value → (Str → Option Value) → (Str → Option Value)} {Q : Value → Shared → Prop} {l : Addr} {vs : List Value} {nn : Nat} (G : Nat → Value → Option Obj → Prop) (hh : A.handled = none) (hgo : GoOk prog w A target s.heap.objs.size (fun i v => vs.toArray[i]? = some v) (fun i h => h.IsListIter s.heap.objs.size l i ∧ h.IsList l vs.toArray))
    (F : Fr h₀ env.locals s.heap m) (N : News h₀ env.locals s.heap news) (hl : (l, ({ cls := .type "list", data := .seq vs.toArray nn } : Obj)) ∈ news ∨ h₀.IsList l vs.toArray) (hsz : vs.length ≤ sizeLine)
    (helt : ∀ g i v C m₃ h tk own, i < vs.length → vs[i]? = some v → env.locals ≠ C → (∀ b o', h₀.get? b = some o' → g.get? b = some o') → (∀ p ∈ news, g.get? p.1 = some p.2) →
      Fr g C h m₃ → News g C h own →
      wpAny (model prog w) A (assign target (compEnvC scope cl C env) v) (fun _ s₄ => wpAny (model prog w) A (eval elt (compEnvC scope cl C env)) (fun y s₅ =>
        ∃ h' tk' m' oo, s₅ = { s with heap := h', toks := tk' } ∧ Fr g C h' m' ∧ News g C h' own ∧ G i y oo ∧ AtN h' (fun a => a = C ∨ g.get? a ≠ none ∨ ∃ p ∈ own, p.1 = a) y oo) (fun _ _ => False) s₄) (fun _ _ => False) { s with heap := h, toks := tk })
    (hQ : ∀ D h' tk ys els, Fr h₀ env.locals h' (up (.ref D) m) → News h₀ env.locals h' (els ++ (D, LCg.lst ys) :: news) → (∀ p ∈ els, p.1 ≠ D ∧ s.heap.get? p.1 = none) → s.heap.get? D = none → ys.length = vs.length → (∀ j y, ys[j]? = some y → ∃ oo, G j y oo ∧ InE els y oo) → Q (.ref D) { s with heap := h', toks := tk }) :
    wpAny (model prog w) A (pyIter (.ref l)) (fun it s₂ => CompG prog w A h₀ env elt target scope cl up Q it s₂) E s := by
  have hls : s.heap.IsList l vs.toArray := hl.elim (fun h => ⟨_, (N _ h).1, rfl, nn, rfl⟩) fun ⟨o, e, r⟩ => ⟨o, F.keep _ _ e, r⟩
  have hlt : l < s.heap.objs.size := let ⟨_, e, _⟩ := hls; Heap.lt_size e
  refine wpAny_pyIter_list hls ?_
  refine compFresh G F N rfl (Walks.list hh s.heap.objs.size l (Nat.ne_of_lt hlt) vs.toArray) hgo (by simpa using hsz) (fun i h hs => let ⟨⟨o, e, _⟩, _⟩ := hs; ⟨o, e⟩) (fun b hb => ?_) ⟨⟨_, Heap.get?_push_size _ rfl, rfl, rfl⟩, hls.at fun o e => Heap.get?_push_of_some _ e⟩
    (fun i v C m₃ h tk own hi hP => helt _ i v C m₃ h tk own (by simpa using hi) (by simpa using hP)) (fun D h' tk ys els F' N' he hD hl hy => hQ D h' tk ys els F' N' he hD (by simpa using hl) hy)
  rcases List.mem_cons.mp hb with e | hb
  · exact .inl e
  · rw [List.mem_singleton.mp hb]
    obtain ⟨o, e, _⟩ := hls
    exact .inr ⟨o, e⟩
end
theorem newsCons {h₀ h : Heap} {L a : Addr} {o : Obj} {r : List (Addr × Obj)} (x : h.get? a = some o ∧ a ≠ L ∧ h₀.get? a = none) (N : News h₀ L h r) : News h₀ L h ((a, o) :: r) := fun q hq => by
  rcases List.mem_cons.mp hq with rfl | hq
  · exact x
  · exact N q hq
theorem none_ext {h h' : Heap} {a : Addr} (x : Ext h h') (e : h'.get? a = none) : h.get? a = none := by
  cases q : h.get? a with
  | none => rfl
  | some o => rw [x a o q] at e; cases e
section
variable {prog : Program} {w : World} {A : Around} {s : Shared} {env : Env} {h₀ : Heap} {m : Str → Option Value} {news : List (Addr × Obj)} {E : Value → Shared → Prop} {target : Expr} {body orelse : List Stmt} {Q : Flow → Shared → Prop}
theorem loopRange {r : Addr} {a b : Int} {t u v : Tok} (n : Nat) (J : Nat → (Str → Option Value) → List (Addr × Obj) → Prop) (hr : IsRange s.heap r a b 1 t u v) (hsm : Builtin.Range.small a b 1 = true) (hn : Builtin.Range.rangeSize a b 1 = (n : Int)) (hh : A.handled = none) (hgo : ∀ I v, letOwnedTupleGo target (.ref I) v = pure ())
    (F : Fr h₀ env.locals s.heap m) (N : News h₀ env.locals s.heap news) (h0 : J 0 m news)
    (step : ∀ i t m₁ nx h tk own, i < n → J i m₁ nx → OwnOff own (nx.map (·.1)) → Fr h₀ env.locals h m₁ → News h₀ env.locals h (nx ++ own) →
      wpAny (model prog w) A (assign target env (.int (a + (i : Int)) t)) (fun _ s₃ => wpAny (model prog w) A (execs body env) (fun f s₄ => match f with
        | .ret v => Q (.ret v) s₄
        | .brk => Q .next s₄
        | _ => ∃ h' tk' m' nx', s₄ = { s with heap := h', toks := tk' } ∧ Fr h₀ env.locals h' m' ∧ News h₀ env.locals h' (nx' ++ own) ∧ OwnOff own (nx'.map (·.1)) ∧ J (i + 1) m' nx') (fun _ _ => False) s₃) (fun _ _ => False) { s with heap := h, toks := tk })
    (done : ∀ h' tk m' nx, Fr h₀ env.locals h' m' → News h₀ env.locals h' nx → J n m' nx → wpAny (model prog w) A (execs orelse env) Q (fun _ _ => False) { s with heap := h', toks := tk }) :
    wpAny (model prog w) A (pyIter (.ref r)) (fun it s₂ => LoopG prog w A h₀ env target body orelse Q (fun _ _ => False) it s₂) E s := by
  refine wpAny_pyIter_range hr hsm ?_
  refine loopFresh J F N (Walks.range hh s.heap.objs.size a 1 n) (GoOk.name (hgo _)) (fun i h st => ⟨_, st⟩) (fun b hb => .inl (List.mem_singleton.mp hb)) ?_ h0 ?_ done
  · show IsRangeIter _ _ _ _ _
    rw [hn]
    simpa using Heap.get?_push_size _ rfl
  · rintro i v m₁ nx h tk own hi ⟨t, rfl⟩ hJ ho F N
    have e : a + (i : Int) * 1 = a + i := by omega
    rw [e]
    exact step i t m₁ nx h tk own hi hJ ho F N
end
local macro_rules | `(tactic| walk_at "NOWALK") => `(tactic| first | (with_reducible show wpAny _ _ (call (Value.type "range") _ _) _ _ _) | fail)
section
variable {prog : Program} {w : World} {A : Around} {s : Shared} {K : Frag} {E Q : Value → Shared → Prop} {name qual : Str} {params : Arguments} {body : List Stmt} {scope : Scope} {dV kV doc pm cdv ct oc : Value} {an od : Option Addr} {osl : Array (Option Value)} {f : Addr} {pos : List Value} {kw : List (Str × Value)} {binds : List (Str × Value)}
/-- a def that holds names of its own for a comprehension within it -/
theorem enterC {p : Program} {loose : List Str} {mg mb : Str → Option Value} (X₀ : K.In s.heap) (T : TopRead p loose mg mb s.heap)
    (ho : K.lookup f = some ⟨oc, od, .func (fnOf name qual params body scope dV kV doc pm an cdv ct), osl⟩) (hcd : codeIn K cdv qual = true) (hroom : A.depth < recursionLimit)
    (hbind : BindsTo s (fnOf name qual params body scope dV kV doc pm an cdv ct) ⟨pos, kw⟩ binds)
    (hkind : (binds.all fun y => scope.names.lookup y.1 == some .local || scope.names.lookup y.1 == some .cell) = true) (hnd : ((cellsFrom 0 scope.names []).map (·.1)).Nodup)
    (h : ∀ L' h₁ tk cells, Fr s.heap L' h₁ (bindL (envOfC qual scope L' f cdv).kindOf binds fun _ => none) → News s.heap L' h₁ cells →
      CellsAre (bindC (envOfC qual scope L' f cdv).kindOf binds fun _ => none) (cellsFrom (L' + 1) scope.names []) cells → K.In s.heap → TopRead p loose mg mb s.heap →
      wpAny (model prog w) (A.deeper (envOfC qual scope L' f cdv)) (execs body (envOfC qual scope L' f cdv))
        (fun fl s' => Q (match fl with | .ret v => v | _ => .none) s') (fun _ _ => False) { s with heap := h₁, toks := tk })
    (hco : scope.isCoroutine = false) (hgen : scope.isGenerator = false) (hk : scope.kind = .function) : wpAny (model prog w) A (call (.ref f) pos kw) Q E s := by
  refine wpAny_call (codeAny_call_function hroom (X₀ _ _ ho) rfl hco hgen rfl (codeRec_of X₀ hcd) (hbind _ _ _ _ ?_))
  refine wpAny_newFunctionEnv_cells hk (kindsX hkind _) fun env' he s' x => ?_
  subst he
  refine ⟨T.nolimit.keeps x.toInCall.keep, codeAny_func ?_⟩
  obtain ⟨h₁, tk, rfl, _⟩ := x.done
  have hk₁ := x.toInCall.keep
  obtain ⟨cells, NC, Y⟩ := Cl.news (h₀ := s.heap) (Nat.le_refl _) fun n c hm => ⟨x.cell n c (lookup_of_mem_nodup (cellsFrom_names scope.names 0 (s.heap.objs.size + 1) [] [] rfl ▸ hnd) hm), x.above n c hm⟩
  refine wpAny_mono (h s.heap.objs.size h₁ tk cells ⟨x.toInCall.ns, hk₁, Nat.le_refl _⟩ NC Y X₀ T) (fun fl s' hl => hl) fun _ _ y => y.elim
end
section
variable {w : World} {p : Program} {loose : List Str} {mg mb : Str → Option Value} {dp un : Nat} {fr : Option (List Env)} {gd : Option (List Code)} {s : Shared} {Q E : Value → Shared → Prop}
theorem headers_new {h₀ : Heap} {L : Addr} {m : Str → Option Value} {news : List (Addr × Obj)} (F : Fr h₀ L s.heap m) (N : News h₀ L s.heap news) (H : Here w p loose mg mb h₀) (hd : dp + 50 < 1000)
    (ret : ∀ x dx l hs tk h' tk', Fr h₀ L h' m → News h₀ L h' ((l, LCg.lst []) :: (x, instObj 234 dx) :: (dx, dictOf [⟨hs, .str (Str.ofString "_headers") tk, .ref l⟩] 1) :: news) →
      (∀ q ∈ news, q.1 < dx) → @LT.lt Nat _ dx x → @LT.lt Nat _ x l → Q (.ref x) { s with heap := h', toks := tk' }) :
    wpAny (model PW w) (au dp un fr gd) (call (.ref 234) []) Q E s := by
  have hrl : recursionLimit = 1000 := rfl
  have X := H.X
  refine' call_cls F X N ?k4 ?k5 ?k6 ?_
  case k4 => k_dflt k_is
  case k5 => k_dflt k_is
  case k6 => k_dflt k_is
  intro x dx h1 F1 N1 l1 l2
  have nx := N1 (x, instObj 234 dx) (by simp)
  have nd := N1 (dx, dictOf [] 0) (by simp)
  k_dflt (refine' enterN (binds := [(Str.ofString "self", .ref x), (Str.ofString "headers", .none)]) (mm := fun y_ => List.lookup y_ [(Str.ofString "headers", .none), (Str.ofString "self", .ref x)]) [(x, instObj 234 dx), (dx, dictOf [] 0)] X H.T F1.keep ?kN ?k6 ?k7 ?k8 ?k9 ?kB ?hm ?_ ?c2 ?c3 ?c4 ?c5; (case k6 => k_is); (case k7 => k_is); (case kB => exact locs rfl); (case hm => exact rfl); (case c5 => decide); (case c2 => exact rfl); (case c3 => exact rfl); (case c4 => exact rfl))
  case k8 => show dp + 1 < _; omega
  case k9 => k_dflt (exact binds_K (Frag.In.keeps X F1.keep) rfl (by k_is) rfl rfl rfl)
  case kN =>
    intro q hq
    rcases List.mem_cons.mp hq with rfl | hq
    · exact ⟨nx.1, nx.2.2⟩
    · rw [List.mem_singleton.mp hq]; exact ⟨nd.1, nd.2.2⟩
  clear X
  replace l2 := ltN l2
  intro g L' h2 x0 x1 x2 lt F' N' X' T'
  k_fold
  walk_at "STEPSW"
  refine forG g ?_
  walk_at "STEPSW"
  (with_reducible rename Fr _ _ _ _ => kF)
  (with_reducible rename News _ _ _ _ => kN)
  refine loopList (vs := []) (nn := 0) (fun _ m nx => nx = _ ∧ m = _) rfl (GoOk.list (fun _ _ h => h.1) fun i v h => by simp at h) kF kN (.inl (by simp)) (.inl fun _ _ _ h => by rw [h.1]; simp) ⟨rfl, rfl⟩ (fun i v m₁ nx h tk own hi => (nomatch hi)) ?_
  rintro h3 tk3 m' nx F3 N3 ⟨rfl, rfl⟩
  walk_at "STEPSW"
  dsimp only at F3 N3
  have hL1 : L ∉ [x, dx] := by
    intro hm
    rcases List.mem_cons.mp hm with e | hm
    · exact nx.2.1 e.symm
    · exact nd.2.1 (List.mem_singleton.mp hm).symm
  have up : ∀ b o, h1.get? b = some o → b ∉ [x, dx] → h3.get? b = some o := fun b o e n => F3.keep b o (x2 b o e n)
  have F4 : Fr h₀ L h3 m := ⟨F1.ns.at' fun o e => up _ o e hL1, fun b o e => F3.keep b o (x0 b o e), F1.above⟩
  have n1 := N3 _ (List.Mem.head _)
  have n2 := N3 _ (List.Mem.tail _ (List.Mem.head _))
  have n3 := N3 _ (List.Mem.tail _ (List.Mem.tail _ (List.Mem.head _)))
  obtain ⟨oL, _, _, hoL, _⟩ := F1.ns
  have gL := x2 L oL hoL hL1
  have N4 : News h₀ L h3 news := fun q hq => by
    have z := N1 q (by simp [hq])
    have zl := ltN (l1 q hq)
    refine ⟨up _ _ z.1 (fun hm => ?_), z.2⟩
    rcases List.mem_cons.mp hm with e | hm
    · have e' : @Eq Nat q.1 x := e
      omega
    · have e' : @Eq Nat q.1 dx := List.mem_singleton.mp hm
      omega
  exact ⟨rfl, ret x dx _ _ _ h3 tk3 F4 (newsCons ⟨n1.1, fun e => (by have := n1.2.2; rw [e, gL] at this; cases this), none_ext x0 n1.2.2⟩ (newsCons ⟨n2.1, nx.2⟩ (newsCons ⟨n3.1, nd.2⟩ N4))) l1 l2 (by omega)⟩
end
def lowL (l : List Nat) : List Nat := l.map lo1
/-- letters, few -/
def NameOk (l : List Nat) : Prop := (∀ c ∈ l, 65 ≤ c ∧ c < 123) ∧ l.length ≤ 8
theorem lo1_ok : ∀ c : Fin 123, 65 ≤ c.val → 65 ≤ lo1 c.val ∧ lo1 c.val < 123 := by decide +kernel
theorem NameOk.low {l : List Nat} (h : NameOk l) : NameOk (lowL l) := by
  refine ⟨fun c hc => ?_, by simp [lowL, h.2]⟩
  obtain ⟨d, hd, rfl⟩ := List.mem_map.mp hc
  have z := h.1 d hd
  exact lo1_ok ⟨d, z.2⟩ z.1
theorem NameOk.clean {l : List Nat} (h : NameOk l) : Clean ⟨l.toArray⟩ := fun c hc => by have := h.1 c (by simpa using hc); omega
theorem str_beq (a b : List Nat) : ((⟨a.toArray⟩ : Str) == ⟨b.toArray⟩) = (a == b) := by
  rw [Bool.eq_iff_iff, beq_iff_eq, beq_iff_eq]
  constructor
  · intro e; injection e with e; exact List.toArray_inj e
  · intro e; rw [e]
section
variable {prog : Program} {w : World} {A : Around} {E Q : Value → Shared → Prop} {s : Shared} {l : List Nat} {t : Tok}
theorem lowerL (h : NameOk l) (hq : ∀ t', Q (.str ⟨(lowL l).toArray⟩ t') { s with toks := s.toks + 1 }) : wpAny (model prog w) A (call (.builtin "str.lower") [.str ⟨l.toArray⟩ t]) Q E s := by
  have e : Txt.lower ⟨l.toArray⟩ = ⟨(lowL l).toArray⟩ := by
    rw [lower_ascii (fun c hc => by have := h.1 c (by simpa using hc); omega)]
    simp [lowL]
  refine SC.lower ?_ ?_
  · rw [e]; exact short24 (by show (lowL l).toArray.size ≤ _; have := h.low.2; simp; omega)
  · rw [e]; exact hq _
theorem eqL {a b : List Nat} {t u : Tok} (hq : Q (.bool (a == b)) s) : wpAny (model prog w) A (compareOp .Eq (.str ⟨a.toArray⟩ t) (.str ⟨b.toArray⟩ u)) Q E s := by
  refine eq_str ?_
  rw [str_beq]; exact hq
end
theorem upd_keep {h₀ h : Heap} {L : Addr} {m : Str → Option Value} {b : Addr} {o : Obj} (F : Fr h₀ L h m) (e : h₀.get? b = some o) : h.get? b = some o := F.keep b o e
local macro_rules | `(tactic| walk_at "getMethod ref") => `(tactic| (k_here; k_dflt (refine' method_inst ?k1 ?k2 ?k3 ?k4 ?k5 ?k6 ?k7 ?_; (case k1 => k_asm); (case k2 => k_asm); (case k3 => exact instOf (upd_keep (by k_asm) (by assumption)) (upd_keep (by k_asm) (by assumption))); (case k4 => k_is); (case k5 => k_is); (case k6 => k_is); (case k7 => k_get); k_whole)))
local macro_rules | `(tactic| walk_at "getAttr ref") => `(tactic| (k_here; k_dflt (refine' get_own ?k1 ?k2 ?k3 ?k4 ?k5 ?k6 ?k7 ?k8 ?k9 ?_; (case k1 => k_asm); (case k2 => k_asm); (case k3 => exact instOf (upd_keep (by k_asm) (by assumption)) (upd_keep (by k_asm) (by assumption))); (case k4 => k_is); (case k5 => k_is); (case k6 => k_is); (case k7 => k_is); (case k8 => k_get); (case k9 => k_handed); k_whole)))
local macro_rules | `(tactic| walk_at "call builtin:str.lower") => `(tactic| (k_here; (with_reducible show wpAny _ _ (call (Value.builtin _) [Value.str (PySem.Str.mk (List.toArray _)) _]) _ _ _); (refine lowerL (by assumption) ?_; intro _; (try dsimp only))))
local macro_rules | `(tactic| walk_at "compareOp Eq str str") => `(tactic| (k_here; (with_reducible show wpAny _ _ (compareOp CmpOp.Eq (Value.str (PySem.Str.mk (List.toArray _)) _) (Value.str (PySem.Str.mk (List.toArray _)) _)) _ _ _); refine eqL ?_))
abbrev hdict (hs : Int) (tk : Tok) (l : Addr) : Obj := dictOf [⟨hs, .str (Str.ofString "_headers") tk, .ref l⟩] 1
abbrev listObj (vs : List Value) (n : Nat) : Obj := { cls := .type "list", data := .seq vs.toArray n }
abbrev tupObj (vs : List Value) (n : Nat) : Obj := { cls := .type "tuple", data := .seq vs.toArray n }
abbrev sv (l : List Nat) (t : Tok) : Value := .str ⟨l.toArray⟩ t
inductive RowsAt (h : Heap) : List Value → List (List Nat × List Nat) → Prop
  | nil : RowsAt h [] []
  | cons {a : Addr} {k : Nat} {t u : Tok} {x y : List Nat} {vs : List Value} {rows : List (List Nat × List Nat)} : h.get? a = some (tupObj [sv x t, sv y u] k) → RowsAt h vs rows → RowsAt h (.ref a :: vs) ((x, y) :: rows)
theorem RowsAt.ext {h h' : Heap} (k : ∀ b o, h.get? b = some o → h'.get? b = some o) : ∀ {vs rows}, RowsAt h vs rows → RowsAt h' vs rows
  | _, _, .nil => .nil
  | _, _, .cons e r => .cons (k _ _ e) (r.ext k)
theorem RowsAt.len {h : Heap} : ∀ {vs rows}, RowsAt h vs rows → vs.length = rows.length
  | _, _, .nil => rfl
  | _, _, .cons _ r => by rw [List.length_cons, List.length_cons, r.len]
theorem RowsAt.get {h : Heap} : ∀ {vs rows}, RowsAt h vs rows → ∀ {i : Nat} {v : Value}, vs[i]? = some v → ∃ a k t u x y, v = .ref a ∧ rows[i]? = some (x, y) ∧ h.get? a = some (tupObj [sv x t, sv y u] k)
  | _, _, .nil, _, _, e => by simp at e
  | _, _, .cons (a := a) (k := k) (t := t) (u := u) (x := x) (y := y) e r, 0, v, h => by simp at h; exact ⟨a, k, t, u, x, y, h.symm, rfl, e⟩
  | _, _, .cons e r, i + 1, v, h => by simpa using r.get (i := i) (by simpa using h)
theorem RowsAt.append {h : Heap} : ∀ {vs rows}, RowsAt h vs rows → ∀ {vs' rows'}, RowsAt h vs' rows' → RowsAt h (vs ++ vs') (rows ++ rows')
  | _, _, .nil, _, _, r => r
  | _, _, .cons e r, _, _, r' => .cons e (r.append r')
theorem find_at {α : Type} {p : α → Bool} : ∀ {l : List α} {i : Nat} {a : α}, (l.take i).find? p = none → l[i]? = some a → p a = true → l.find? p = some a
  | [], _, _, _, h, _ => by simp at h
  | b :: l, 0, a, _, h, hp => by simp at h; subst h; rw [List.find?_cons_of_pos hp]
  | b :: l, i + 1, a, hn, h, hp => by
    rw [List.take_succ_cons, List.find?_cons] at hn
    rw [List.find?_cons]
    cases q : p b with
    | true => rw [q] at hn; cases hn
    | false => rw [q] at hn; exact find_at hn (by simpa using h) hp
theorem find_step {α : Type} {p : α → Bool} {l : List α} {i : Nat} {a : α} (hn : (l.take i).find? p = none) (h : l[i]? = some a) (hp : p a = false) : (l.take (i + 1)).find? p = none := by
  rw [List.take_add_one, h, List.find?_append, hn]; simp [hp]
/-- what the table holds for a name, great and small letters alike -/
def hGet (rows : List (List Nat × List Nat)) (nm : List Nat) : Option (List Nat × List Nat) := rows.find? fun r => lowL r.1 == lowL nm
section
variable {w : World} {p : Program} {loose : List Str} {mg mb : Str → Option Value} {dp un : Nat} {fr : Option (List Env)} {gd : Option (List Code)} {s : Shared} {Q E : Value → Shared → Prop}
theorem get_spec {T dx l : Addr} {hs : Int} {tk t : Tok} {vs : List Value} {nn : Nat} {rows : List (List Nat × List Nat)} {nm : List Nat} (H : Here w p loose mg mb s.heap) (hd : dp + 40 < 1000)
    (hT : s.heap.get? T = some (instObj 234 dx)) (hdx : s.heap.get? dx = some (hdict hs tk l)) (hl : s.heap.get? l = some (listObj vs nn)) (hr : RowsAt s.heap vs rows) (hrc : ∀ r ∈ rows, NameOk r.1) (hnm : NameOk nm)
    (ret : Ret s Q (fun v _ => match hGet rows nm with | some r => ∃ t, v = sv r.2 t | none => v = .none)) : wpAny (model PW w) (au dp un fr gd) (call (.ref 181) [.ref T, sv nm t]) Q E s := by
  have hrl : recursionLimit = 1000 := rfl
  k_dflt (refine' enterP (binds := [((PySem.Str.ofString "self"), .ref T), ((PySem.Str.ofString "name"), sv nm t), ((PySem.Str.ofString "default"), .none)]) (mm := fun y_ => List.lookup y_ [((PySem.Str.ofString "default"), .none), ((PySem.Str.ofString "name"), sv nm t), ((PySem.Str.ofString "self"), .ref T)]) (Here.X (by assumption)) (Here.T (by assumption)) ?k6 ?k7 ?k8 ?k9 ?kB ?hm ?_ ?c2 ?c3 ?c4 ?c5; (case k6 => k_is); (case k7 => k_is); (case k8 => (dsimp only; omega)); (case k9 => first | exact BindsTo.of_eq rfl | exact binds_K (Here.X (by assumption)) rfl (by k_is) rfl rfl rfl); (case kB => exact locs rfl); (case hm => exact rfl); (case c5 => decide); (case c2 => exact rfl); (case c3 => exact rfl); (case c4 => exact rfl))
  intro L' h' F' N' X' T'
  k_fold
  walk_at "STEPSW"
  refine' conv_spec (b := true) ?h1 ?h2 ?h3 ?h4 ?_
  case h1 => walk_at "HERE"
  case h2 => walk_at "ROOM"
  case h3 => exact hnm.low.clean
  case h4 => have := hnm.low.2; simp; omega
  intro v9 h9 tk9 ext9 pv9
  (with_reducible rename Fr _ _ _ _ => kF)
  (with_reducible rename News _ _ _ _ => kN)
  replace kF := frExt kF ext9
  replace kN := newsExt kN ext9
  (try dsimp only at kF kN)
  subst pv9
  walk_at "STEPSW"
  refine forG s.heap ?_
  walk_at "STEPSW"
  (with_reducible rename Fr _ _ _ _ => kF)
  (with_reducible rename News _ _ _ _ => kN)
  refine loopList (vs := vs) (nn := nn) (fun i m nx => nx = [] ∧ (rows.take i).find? (fun r => lowL r.1 == lowL nm) = none ∧ ∃ tn u, m = loc [("name", sv (lowL nm) tn), ("default", .none)] u) rfl (GoOk.list (fun _ _ h => h.1) fun i v h => ?go) (fr_loc kF [("name", sv (lowL nm) _), ("default", .none)] ⟨rfl, rfl, trivial⟩) kN (.inr ⟨_, hl, rfl, _, rfl⟩) (.inr ⟨_, hl, rfl, _, rfl⟩) ⟨rfl, by simp, _, _, rfl⟩ ?step ?done
  case go => obtain ⟨a, _, _, _, _, _, e, _⟩ := hr.get (i := i) (v := v) (by simpa using h); exact ⟨a, e⟩
  case step =>
    rintro i v m₁ nx h tk own hi hv ⟨rfl, hfind, tn, u', rfl⟩ hoff F N
    clear kF kN
    obtain ⟨a, k, t1, t2, x, y, rfl, hrow, ha⟩ := hr.get hv
    have hx : NameOk x := hrc (x, y) (List.mem_of_getElem? hrow)
    have hx2 := hx.low
    refine assign_Tuple_tuple rfl ⟨_, F.keep _ _ ha, rfl, _, rfl⟩ rfl rfl ?_
    intro h5 x5
    have e5 : Ext h h5 := fun b o e => x5 b o (Nat.ne_of_lt (Heap.lt_size e)) e
    replace F := frExt F e5
    replace N := newsExt N e5
    walk_at "STEPSW"
    · walk_at "DONE"
      have e : hGet rows nm = some (x, y) := find_at hfind hrow (by assumption)
      rw [e]; exact ⟨_, rfl⟩
    · (with_reducible rename Fr _ _ _ _ => kF)
      (with_reducible rename News _ _ _ _ => kN)
      exact ⟨_, _, _, [], rfl, fr_loc kF [("name", sv (lowL nm) _), ("default", .none)] ⟨rfl, rfl, trivial⟩, kN, fun _ _ _ h => (nomatch h), rfl, find_step hfind hrow (by first | assumption | (simp only [Bool.not_eq_true] at *; assumption)), _, _, rfl⟩
  case done =>
    rintro h tk m' nx F N ⟨rfl, hfind, tn, u', rfl⟩
    clear kF kN
    walk_at "STEPSW"
    walk_at "DONE"
    rw [hr.len, List.take_length] at hfind
    rw [show hGet rows nm = none from hfind]
end
def hPut (rows : List (List Nat × List Nat)) (nm val : List Nat) : List (List Nat × List Nat) := match hGet rows nm with | some _ => rows | none => rows ++ [(nm, val)]
def ValOk (l : List Nat) : Prop := (∀ c ∈ l, Sign c) ∧ l.length ≤ 8
theorem ValOk.clean {l : List Nat} (h : ValOk l) : Clean ⟨l.toArray⟩ := fun c hc => by have := h.1 c (by simpa using hc); unfold Sign at this; omega
theorem ne_cls {h : Heap} {a b : Addr} {o o' : Obj} (h1 : h.get? a = some o) (h2 : h.get? b = some o') (e : o.cls ≠ o'.cls) : a ≠ b := fun q => by
  subst q
  rw [h1] at h2
  cases h2
  exact e rfl
theorem ne_mem1 {a b : Addr} (h : a ≠ b) : a ∉ [b] := fun hm => h (List.mem_singleton.mp hm)
theorem none_back {h g : Heap} {l a : Addr} (k : ∀ b o, h.get? b = some o → b ∉ [l] → g.get? b = some o) (e : g.get? a = none) (n : a ≠ l) : h.get? a = none := by
  cases q : h.get? a with
  | none => rfl
  | some o => rw [k a o q (ne_mem1 n)] at e; cases e
theorem RowsAt.hide {h g : Heap} {l : Addr} {vs0 : List Value} {n0 : Nat} (hl : h.get? l = some (listObj vs0 n0)) (k : ∀ b o, h.get? b = some o → b ∉ [l] → g.get? b = some o) : ∀ {vs rows}, RowsAt h vs rows → RowsAt g vs rows
  | _, _, .nil => .nil
  | _, _, .cons e r => .cons (k _ _ e (ne_mem1 (ne_cls e hl (show Value.type "tuple" ≠ Value.type "list" by decide)))) (r.hide hl k)
section
variable {w : World} {p : Program} {loose : List Str} {mg mb : Str → Option Value} {dp un : Nat} {fr : Option (List Env)} {gd : Option (List Code)} {s : Shared} {Q E : Value → Shared → Prop}
theorem setdefault_spec {h₀ : Heap} {T dx l : Addr} {hs : Int} {thk t u : Tok} {vs : List Value} {nn : Nat} {rows : List (List Nat × List Nat)} {nm val : List Nat} (H : Here w p loose mg mb h₀) (x : Ext h₀ s.heap) (hd : dp + 60 < 1000)
    (hT : s.heap.get? T = some (instObj 234 dx)) (hdx : s.heap.get? dx = some (hdict hs thk l)) (hl : s.heap.get? l = some (listObj vs nn)) (hl0 : h₀.get? l = none) (hr : RowsAt s.heap vs rows) (hrc : ∀ r ∈ rows, NameOk r.1) (hnm : NameOk nm) (hval : ValOk val) (hlen : vs.length ≤ 1000)
    (ret1 : ∀ r, hGet rows nm = some r → ∀ t' h' tk', Ext s.heap h' → Q (sv r.2 t') { s with heap := h', toks := tk' })
    (ret2 : hGet rows nm = none → ∀ a k t1 t2 t' nn' h' tk', (∀ b o, b ≠ l → s.heap.get? b = some o → h'.get? b = some o) → h'.get? l = some (listObj (vs ++ [.ref a]) nn') → h'.get? a = some (tupObj [sv nm t1, sv val t2] k) → s.heap.get? a = none → Q (sv val t') { s with heap := h', toks := tk' }) :
    wpAny (model PW w) (au dp un fr gd) (call (.ref 224) [.ref T, sv nm t, sv val u]) Q E s := by
  have hrl : recursionLimit = 1000 := rfl
  have X := H.X
  refine wpAny_call ?_
  k_dflt (refine' enterN (binds := [(Str.ofString "self", .ref T), (Str.ofString "name", sv nm t), (Str.ofString "value", sv val u)]) (mm := fun y_ => List.lookup y_ [(Str.ofString "value", sv val u), (Str.ofString "name", sv nm t), (Str.ofString "self", .ref T)]) [(l, listObj vs nn)] X H.T x ?kN ?k6 ?k7 ?k8 ?k9 ?kB ?hm ?_ ?c2 ?c3 ?c4 ?c5; (case k6 => k_is); (case k7 => k_is); (case k9 => exact BindsTo.of_eq rfl); (case kB => exact locs rfl); (case hm => exact rfl); (case c5 => decide); (case c2 => exact rfl); (case c3 => exact rfl); (case c4 => exact rfl))
  case k8 => walk_at "ROOM"
  case kN => intro q hq; rw [List.mem_singleton.mp hq]; exact ⟨hl, hl0⟩
  intro g L' h1 x0 x1 x2 lt F' N' X' T'
  have H' : Here w p loose mg mb g := ⟨X', T'⟩
  have neT : T ∉ [l] := ne_mem1 (ne_cls hT hl (fun e => nomatch e))
  have neD : dx ∉ [l] := ne_mem1 (ne_cls hdx hl (show Value.type "dict" ≠ Value.type "list" by decide))
  have gT := x2 T _ hT neT
  have gD := x2 dx _ hdx neD
  have gR := hr.hide hl x2
  have ltl : @LT.lt Nat _ l L' := lt (l, listObj vs nn) (by simp)
  clear X neT neD
  (show wpAny _ _ _ _ _ _)
  k_fold
  walk_at "STEPSW"
  (with_reducible rename Fr _ _ _ _ => kF)
  (with_reducible rename News _ _ _ _ => kN)
  refine' get_spec (T := T) (dx := dx) (l := l) (hs := hs) (tk := thk) (vs := vs) (nn := nn) (rows := rows) (nm := nm) ?h1 ?h2 ?h3 ?h4 ?h5 ?h6 hrc hnm ?_
  case h1 => walk_at "HERE"
  case h2 => walk_at "ROOM"
  case h3 => exact kF.keep _ _ gT
  case h4 => exact kF.keep _ _ gD
  case h5 => exact (kN (l, listObj vs nn) (by simp)).1
  case h6 => exact gR.ext kF.keep
  intro v9 h9 tk9 ext9 pv9
  (with_reducible rename Fr _ _ _ _ => kF)
  (with_reducible rename News _ _ _ _ => kN)
  replace kF := frExt kF ext9
  replace kN := newsExt kN ext9
  (try dsimp only at kF kN)
  cases hg : hGet rows nm with
  | some r =>
    rw [hg] at pv9
    obtain ⟨t9, rfl⟩ := pv9
    walk_at "STEPSW"
    dsimp only
    (with_reducible rename Fr _ _ _ _ => kF)
    (with_reducible rename News _ _ _ _ => kN)
    refine ret1 r hg t9 _ _ ?_
    intro b o e
    by_cases hb : b = l
    · subst hb
      rw [hl] at e
      cases e
      exact (kN (b, listObj vs nn) (by simp)).1
    · exact kF.keep _ _ (x2 b o e (ne_mem1 hb))
  | none =>
    rw [hg] at pv9
    dsimp only at pv9
    subst pv9
    walk_at "STEPSW"
    refine' conv_spec (b := true) ?h1 ?h2 hnm.clean ?h4 ?_
    case h1 => walk_at "HERE"
    case h2 => walk_at "ROOM"
    case h4 => have := hnm.2; simp; omega
    intro v9 h9 tk9 ext9 pv9
    (with_reducible rename Fr _ _ _ _ => kF)
    (with_reducible rename News _ _ _ _ => kN)
    replace kF := frExt kF ext9
    replace kN := newsExt kN ext9
    (try dsimp only at kF kN)
    subst pv9
    walk_at "STEPSW"
    refine' conv_spec (b := false) ?h1 ?h2 hval.clean ?h4 ?_
    case h1 => walk_at "HERE"
    case h2 => walk_at "ROOM"
    case h4 => have := hval.2; simp; omega
    intro v9 h9 tk9 ext9 pv9
    (with_reducible rename Fr _ _ _ _ => kF)
    (with_reducible rename News _ _ _ _ => kN)
    replace kF := frExt kF ext9
    replace kN := newsExt kN ext9
    (try dsimp only at kF kN)
    subst pv9
    walk_at "STEPSW"
    dsimp only
    (with_reducible rename Fr _ _ _ _ => F5)
    (with_reducible rename News _ _ _ _ => N5)
    (with_reducible rename @LT.lt Nat _ l _ => lD)
    have nD := N5 _ (List.Mem.head _)
    have nl := N5 _ (List.Mem.tail _ (List.Mem.head _))
    refine ret2 hg _ _ t u u (nn + 1) _ _ (fun b o hb e => F5.keep _ _ (x2 b o e (ne_mem1 hb))) (nl.1.trans (congrArg some ?_)) nD.1 ?_
    · show ({ cls := .type "list", data := .seq (vs.toArray.push _) (nn + 1) } : Obj) = _
      rw [List.push_toArray]
    · refine none_back x2 nD.2.2 fun e => ?_
      have e' : @Eq Nat _ l := e
      omega
end
inductive RowsIn (nx : List (Addr × Obj)) : List Value → List (List Nat × List Nat) → Prop
  | nil : RowsIn nx [] []
  | cons {a : Addr} {k : Nat} {t u : Tok} {x y : List Nat} {vs : List Value} {rows : List (List Nat × List Nat)} : (a, tupObj [sv x t, sv y u] k) ∈ nx → RowsIn nx vs rows → RowsIn nx (.ref a :: vs) ((x, y) :: rows)
theorem RowsIn.sub {nx nx' : List (Addr × Obj)} (h : ∀ q ∈ nx, q ∈ nx') : ∀ {vs rows}, RowsIn nx vs rows → RowsIn nx' vs rows
  | _, _, .nil => .nil
  | _, _, .cons e r => .cons (h _ e) (r.sub h)
theorem RowsIn.at {nx : List (Addr × Obj)} {h : Heap} (k : ∀ q ∈ nx, h.get? q.1 = some q.2) : ∀ {vs rows}, RowsIn nx vs rows → RowsAt h vs rows
  | _, _, .nil => .nil
  | _, _, .cons e r => .cons (k _ e) (r.at k)
theorem RowsIn.snoc {nx : List (Addr × Obj)} {a : Addr} {k : Nat} {t u : Tok} {x y : List Nat} (e : (a, tupObj [sv x t, sv y u] k) ∈ nx) : ∀ {vs rows}, RowsIn nx vs rows → RowsIn nx (vs ++ [.ref a]) (rows ++ [(x, y)])
  | _, _, .nil => .cons e .nil
  | _, _, .cons e' r => .cons e' (RowsIn.snoc e r)
theorem news_sub {h₀ h : Heap} {L : Addr} {a b : List (Addr × Obj)} (x : ∀ q ∈ a, q ∈ b) (N : News h₀ L h b) : News h₀ L h a := fun q hq => N q (x q hq)
theorem frRef {h₀ h : Heap} {L : Addr} {m : Str → Option Value} (_ : Fr h₀ L h m) (x : Str) {a : Addr} (_ : m x = some (.ref a)) : ∃ g, g = a := ⟨_, rfl⟩
/-- what an offer is answered -/
def hAns (rows : List (List Nat × List Nat)) (nm val : List Nat) : List Nat := match hGet rows nm with | some r => r.2 | none => val
section
variable {w : World} {p : Program} {loose : List Str} {mg mb : Str → Option Value} {dp un : Nat} {fr : Option (List Env)} {gd : Option (List Code)} {s : Shared} {Q E : Value → Shared → Prop}
theorem setdefault_led {h₀ : Heap} {L T dx l : Addr} {m : Str → Option Value} {pre post rest : List (Addr × Obj)} {hs : Int} {thk t u : Tok} {vs : List Value} {nn : Nat} {rows : List (List Nat × List Nat)} {nm val : List Nat}
    (F : Fr h₀ L s.heap m) (N : News h₀ L s.heap (pre ++ (l, listObj vs nn) :: post)) (H : Here w p loose mg mb h₀) (hd : dp + 60 < 1000)
    (hT : (T, instObj 234 dx) ∈ post) (hD : (dx, hdict hs thk l) ∈ post) (hr : RowsIn rest vs rows) (hsub : ∀ q ∈ rest, q ∈ post) (hne1 : ∀ q ∈ pre, q.1 ≠ l) (hne2 : ∀ q ∈ post, q.1 ≠ l)
    (hrc : ∀ r ∈ rows, NameOk r.1) (hnm : NameOk nm) (hval : ValOk val) (hlen : vs.length ≤ 1000)
    (ret : ∀ vs' nn' el t' h' tk', Fr h₀ L h' m → News h₀ L h' (pre ++ (l, listObj vs' nn') :: (post ++ el)) → (∀ q ∈ el, q.1 ≠ l ∧ s.heap.get? q.1 = none) → RowsIn (rest ++ el) vs' (hPut rows nm val) → vs'.length ≤ vs.length + 1 →
      Q (sv (hAns rows nm val) t') { s with heap := h', toks := tk' }) :
    wpAny (model PW w) (au dp un fr gd) (call (.ref 224) [.ref T, sv nm t, sv val u]) Q E s := by
  have zl := N (l, listObj vs nn) (by simp)
  have Np : ∀ q ∈ post, s.heap.get? q.1 = some q.2 := fun q hq => (N q (by simp [hq])).1
  obtain ⟨oL, _, _, hoL, _⟩ := id F.ns
  refine setdefault_spec (T := T) (dx := dx) (l := l) (hs := hs) (thk := thk) (vs := vs) (nn := nn) (rows := rows) H F.keep hd (Np _ hT) (Np _ hD) zl.1 zl.2.2 (hr.at fun q hq => Np q (hsub q hq)) hrc hnm hval hlen ?_ ?_
  · intro r hg t' h' tk' x
    have e1 : hAns rows nm val = r.2 := by unfold hAns; rw [hg]
    have e2 : hPut rows nm val = rows := by unfold hPut; rw [hg]
    rw [← e1]
    exact ret vs nn [] t' h' tk' (frExt F x) (by rw [List.append_nil]; exact newsExt N x) (fun _ h => nomatch h) (by rw [e2, List.append_nil]; exact hr) (Nat.le_succ _)
  · intro hg a k t1 t2 t' nn' h' tk' x hl' ha hna
    have e1 : hAns rows nm val = val := by unfold hAns; rw [hg]
    have e2 : hPut rows nm val = rows ++ [(nm, val)] := by unfold hPut; rw [hg]
    have kp : ∀ b o, h₀.get? b = some o → h'.get? b = some o := fun b o e => x b o (fun q => (by rw [q, zl.2.2] at e; cases e)) (F.keep b o e)
    have F' : Fr h₀ L h' m := ⟨F.ns.at' fun o e => x _ o (fun q => zl.2.1 q.symm) e, kp, F.above⟩
    refine (e1 ▸ ret (vs ++ [.ref a]) nn' [(a, tupObj [sv nm t1, sv val t2] k)] t' h' tk' F' ?_ ?_ ?_ (by simp))
    · intro q hq
      rcases List.mem_append.mp hq with hq | hq
      · have z := N q (List.mem_append.mpr (.inl hq))
        exact ⟨x _ _ (hne1 q hq) z.1, z.2⟩
      · rcases List.mem_cons.mp hq with rfl | hq
        · exact ⟨hl', zl.2⟩
        rcases List.mem_append.mp hq with hq | hq
        · have z := N q (List.mem_append.mpr (.inr (.tail _ hq)))
          exact ⟨x _ _ (hne2 q hq) z.1, z.2⟩
        rw [List.mem_singleton.mp hq]
        refine ⟨ha, fun e => (by rw [show a = L from e, hoL] at hna; cases hna), ?_⟩
        show h₀.get? a = none
        cases e : h₀.get? a with
        | none => rfl
        | some o => rw [F.keep a o e] at hna; cases hna
    · intro q hq
      rw [List.mem_singleton.mp hq]
      exact ⟨fun e => (by rw [show a = l from e, zl.1] at hna; cases hna), hna⟩
    · rw [e2]
      exact RowsIn.snoc (k := k) (t := t1) (u := t2) (by simp) (hr.sub fun q hq => by simp [hq])
end
local macro_rules | `(tactic| walk_at "NOWALK") => `(tactic| first | (with_reducible show wpAny _ _ (subscriptTail _ _ (Value.ref _) _) _ _ _) | fail)
section
variable {w : World} {p : Program} {loose : List Str} {mg mb : Str → Option Value} {dp un : Nat} {fr : Option (List Env)} {gd : Option (List Code)} {s : Shared} {Q E : Value → Shared → Prop}
theorem items_spec {T dx l : Addr} {hs : Int} {thk : Tok} {vs : List Value} {nn : Nat} (H : Here w p loose mg mb s.heap) (hd : dp + 30 < 1000)
    (hT : s.heap.get? T = some (instObj 234 dx)) (hdx : s.heap.get? dx = some (hdict hs thk l)) (hl : s.heap.get? l = some (listObj vs nn)) (hlen : vs.length ≤ 1000)
    (ret : Ret s Q (fun v h => ∃ a n, v = .ref a ∧ h.get? a = some (listObj vs n) ∧ s.heap.get? a = none)) : wpAny (model PW w) (au dp un fr gd) (call (.ref 198) [.ref T]) Q E s := by
  have hrl : recursionLimit = 1000 := rfl
  k_dflt (refine' enterP (binds := [((PySem.Str.ofString "self"), .ref T)]) (mm := fun y_ => List.lookup y_ [((PySem.Str.ofString "self"), .ref T)]) (Here.X (by assumption)) (Here.T (by assumption)) ?k6 ?k7 ?k8 ?k9 ?kB ?hm ?_ ?c2 ?c3 ?c4 ?c5; (case k6 => k_is); (case k7 => k_is); (case k8 => (dsimp only; omega)); (case k9 => exact BindsTo.of_eq rfl); (case kB => exact locs rfl); (case hm => exact rfl); (case c5 => decide); (case c2 => exact rfl); (case c3 => exact rfl); (case c4 => exact rfl))
  intro L' h' F' N' X' T'
  k_fold
  walk_at "STEPSW"
  (with_reducible rename Fr _ _ _ _ => kF)
  (with_reducible rename News _ _ _ _ => kN)
  refine kba_turn (value' := PySem.Expr.Name (PySem.Str.ofString "_") ⟨0, 0, 0, 0⟩) (fun _ => rfl) ?_
  refine kmk_slice (s := ⟨_, _, _, _, _⟩) (its := vs.toArray) kF kN ⟨_, kF.keep _ _ hl, rfl, _, rfl⟩ (by constructor) (by constructor) ?_ rfl (by kmk_pure) (by show vs.toArray.size ≤ 2 ^ 24; simp; omega)
  intro D h5 F5 N5 _
  dsimp only
  have nD := N5 _ (List.Mem.head _)
  refine ret _ _ _ F5.keep ⟨D, 0, rfl, ?_, nD.2.2⟩
  rw [nD.1, slicePick_all]
theorem keys_spec {T dx l : Addr} {hs : Int} {thk : Tok} {vs : List Value} {nn : Nat} {rows : List (List Nat × List Nat)} (H : Here w p loose mg mb s.heap) (hd : dp + 30 < 1000)
    (hT : s.heap.get? T = some (instObj 234 dx)) (hdx : s.heap.get? dx = some (hdict hs thk l)) (hl : s.heap.get? l = some (listObj vs nn)) (hlen : vs.length ≤ 1000) (hr : RowsAt s.heap vs rows)
    (ret : Ret s Q (fun v h => ∃ (a : Addr) (ys : List Value) (n : Nat), v = .ref a ∧ h.get? a = some (listObj ys n) ∧ s.heap.get? a = none ∧ ys.length = rows.length ∧ ∀ (j : Nat) (y : Value), ys[j]? = some y → ∃ (r : List Nat × List Nat) (t : Tok), rows[j]? = some r ∧ y = sv r.1 t)) : wpAny (model PW w) (au dp un fr gd) (call (.ref 186) [.ref T]) Q E s := by
  have hrl : recursionLimit = 1000 := rfl
  k_dflt (refine' enterP (binds := [((PySem.Str.ofString "self"), .ref T)]) (mm := fun y_ => List.lookup y_ [((PySem.Str.ofString "self"), .ref T)]) (Here.X (by assumption)) (Here.T (by assumption)) ?k6 ?k7 ?k8 ?k9 ?kB ?hm ?_ ?c2 ?c3 ?c4 ?c5; (case k6 => k_is); (case k7 => k_is); (case k8 => (dsimp only; omega)); (case k9 => exact BindsTo.of_eq rfl); (case kB => exact locs rfl); (case hm => exact rfl); (case c5 => decide); (case c2 => exact rfl); (case c3 => exact rfl); (case c4 => exact rfl))
  intro L' h' F' N' X' T'
  k_fold
  walk_at "STEPSW"
  refine compE s.heap rfl (by decide) rfl (by decide) ?_
  walk_at "STEPSW"
  (with_reducible rename Fr _ _ _ _ => kF)
  (with_reducible rename News _ _ _ _ => kN)
  refine compList (vs := vs) (nn := nn) (fun i y oo => oo = none ∧ ∃ (r : List Nat × List Nat) (t : Tok), rows[i]? = some r ∧ y = sv r.1 t) rfl (GoOk.list (fun _ _ h => h.1) fun i v h => ?go) kF kN (.inr ⟨_, hl, rfl, _, rfl⟩) (Nat.le_trans hlen (by decide)) ?elt ?done
  case go => obtain ⟨a, _, _, _, _, _, e, _⟩ := hr.get (i := i) (v := v) (by simpa using h); exact ⟨a, e⟩
  case elt =>
    intro g i v C m₃ h tk own hi hv hLC g0 gn F N
    clear kF kN
    obtain ⟨a, k, t1, t2, x, y, rfl, hrow, ha⟩ := hr.get hv
    have X9 := H.X.keeps g0
    have T9 := H.T.keeps g0
    refine assign_Tuple_tuple rfl ⟨_, F.keep _ _ (g0 _ _ ha), rfl, _, rfl⟩ rfl rfl ?_
    intro h5 x5
    have e5 : Ext h h5 := fun b o e => x5 b o (Nat.ne_of_lt (Heap.lt_size e)) e
    replace F := frExt F e5
    replace N := newsExt N e5
    walk_at "STEPSW"
    (with_reducible rename Fr _ _ _ _ => kF)
    (with_reducible rename News _ _ _ _ => kN)
    exact ⟨_, _, _, none, rfl, kF, kN, ⟨rfl, _, _, hrow, rfl⟩, trivial⟩
  case done =>
    intro D h' tk ys els F N he hD hl' hy
    clear kF kN
    walk_at "STEPSW"
    dsimp only
    (with_reducible rename Fr _ _ _ _ => kF)
    (with_reducible rename News _ _ _ _ => kN)
    have nD := kN (D, LCg.lst ys) (by simp)
    exact ret _ _ _ kF.keep ⟨D, ys, _, rfl, nD.1, nD.2.2, by rw [hl', hr.len], fun j y hj => by obtain ⟨_, ⟨_, q⟩, _⟩ := hy j y hj; exact q⟩
end
def stretchN (N a b : Nat) : Nat := N / 16 ^ (5 - b) % 16 ^ (b - a)
def nameOf (N a b : Nat) : List Nat := if a % 2 = 1 then lowL (apF 5 (stretchN N a b)) else apF 5 (stretchN N a b)
def valOf (f : Nat → Nat) (a b : Nat) : List Nat := apF 5 (f a * f (b - 1) + b)
abbrev TabSt : Type := List (List Nat × List Nat) × List (List Nat)
def offer (st : TabSt) (nm val : List Nat) : TabSt := (hPut st.1 nm val, st.2 ++ [hAns st.1 nm val])
def tabIn (N : Nat) (f : Nat → Nat) (a : Nat) (st : TabSt) (j : Nat) : TabSt := (List.range j).foldl (fun st k => offer st (nameOf N a (a + 1 + k)) (valOf f a (a + 1 + k))) st
def tabOut (N : Nat) (f : Nat → Nat) (st : TabSt) (i : Nat) : TabSt := (List.range i).foldl (fun st a => tabIn N f a st (5 - a)) st
def tab0 (f : Nat → Nat) : TabSt := (hPut [] [] (apF 5 (f 0)), [hAns [] [] (apF 5 (f 0))])
def tabEnd (N : Nat) (f : Nat → Nat) : TabSt := offer (tabOut N f (tab0 f) 5) [] (apF 5 (f 4))
theorem tabIn_succ (N : Nat) (f : Nat → Nat) (a : Nat) (st : TabSt) (j : Nat) : tabIn N f a st (j + 1) = offer (tabIn N f a st j) (nameOf N a (a + 1 + j)) (valOf f a (a + 1 + j)) := by simp [tabIn, List.range_succ]
theorem tabOut_succ (N : Nat) (f : Nat → Nat) (st : TabSt) (i : Nat) : tabOut N f st (i + 1) = tabIn N f i (tabOut N f st i) (5 - i) := by simp [tabOut, List.range_succ]
theorem tabEnd_rows (N : Nat) (f : Nat → Nat) : (tabEnd N f).1 = hPut (tabOut N f (tab0 f) 5).1 [] (apF 5 (f 4)) := by simp only [tabEnd, offer]
theorem tabEnd_given (N : Nat) (f : Nat → Nat) : (tabEnd N f).2 = (tabOut N f (tab0 f) 5).2 ++ [hAns (tabOut N f (tab0 f) 5).1 [] (apF 5 (f 4))] := by simp only [tabEnd, offer]
theorem hPut_names {rows : List (List Nat × List Nat)} {nm val : List Nat} (h : ∀ r ∈ rows, NameOk r.1) (hn : NameOk nm) : ∀ r ∈ hPut rows nm val, NameOk r.1 := by
  unfold hPut
  split
  · exact h
  · intro r hr
    rcases List.mem_append.mp hr with hr | hr
    · exact h r hr
    · rw [List.mem_singleton.mp hr]; exact hn
theorem apF_val (k n : Nat) (h : k ≤ 8 := by decide) : ValOk (apF k n) := ⟨fun c hc => apF_mem k n c hc, Nat.le_trans (apF_len k n) h⟩
theorem apF_name (n : Nat) : NameOk (apF 5 n) := ⟨fun c hc => by have := apF_mem 5 n c hc; omega, Nat.le_trans (apF_len 5 n) (by decide)⟩
theorem nameOf_ok (N a b : Nat) : NameOk (nameOf N a b) := by
  unfold nameOf
  split
  · exact (apF_name _).low
  · exact apF_name _
theorem pow16 (k : Nat) : 2 ^ (4 * k) = 16 ^ k := by rw [Nat.pow_mul]
theorem stretch_lt (N a b : Nat) (h : b - a ≤ 5) : stretchN N a b < 16 ^ 5 := by
  have h1 : stretchN N a b < 16 ^ (b - a) := Nat.mod_lt _ (Nat.pow_pos (by decide))
  exact Nat.lt_of_lt_of_le h1 (Nat.pow_le_pow_right (by decide) h)
theorem stretch_eq (N a b : Nat) (hab : a < b) (hb : b ≤ 5) {x y : Int} (ex : x = 4 * (5 - (b : Int))) (ey : y = 4 * ((b : Int) - (a : Int))) :
    Builtin.bitAnd ((N : Int).fdiv (2 ^ x.toNat)) (1 * 2 ^ y.toNat - 1) = ((stretchN N a b : Nat) : Int) := by
  have e1 : x.toNat = 4 * (5 - b) := by omega
  have e2 : y.toNat = 4 * (b - a) := by omega
  rw [e1, e2]
  have p1 : (2 : Int) ^ (4 * (5 - b)) = ((16 ^ (5 - b) : Nat) : Int) := by rw [← pow16]; norm_cast
  have p2 : (1 : Int) * 2 ^ (4 * (b - a)) - 1 = ((2 ^ (4 * (b - a)) - 1 : Nat) : Int) := by
    have : 0 < 2 ^ (4 * (b - a)) := Nat.pow_pos (by decide)
    rw [Int.one_mul, Int.natCast_sub this]; norm_cast
  rw [p1, p2, Int.fdiv_eq_ediv_of_nonneg _ (Int.natCast_nonneg _), ← Int.natCast_ediv, bitAnd_nat, Nat.and_two_pow_sub_one_eq_mod, pow16]
  rfl
/-- a list of texts -/
inductive SvAll : List Value → List (List Nat) → Prop
  | nil : SvAll [] []
  | cons {l : List Nat} {t : Tok} {vs : List Value} {ls : List (List Nat)} : SvAll vs ls → SvAll (sv l t :: vs) (l :: ls)
theorem SvAll.snoc {l : List Nat} {t : Tok} : ∀ {vs ls}, SvAll vs ls → SvAll (vs ++ [sv l t]) (ls ++ [l])
  | _, _, .nil => .cons .nil
  | _, _, .cons r => .cons r.snoc
theorem SvAll.len : ∀ {vs ls}, SvAll vs ls → vs.length = ls.length
  | _, _, .nil => rfl
  | _, _, .cons r => congrArg (· + 1) r.len
/-- the ledger while the table is laid -/
def TabLed (T dx l gv : Addr) (rows : List (List Nat × List Nat)) (given : List (List Nat)) (k : Nat) (nx : List (Addr × Obj)) : Prop :=
  ∃ gs gn vs nn hs tk rest, nx = (gv, listObj gs gn) :: (l, listObj vs nn) :: (T, instObj 234 dx) :: (dx, hdict hs tk l) :: rest ∧ RowsIn rest vs rows ∧ SvAll gs given ∧ (∀ r ∈ rows, NameOk r.1) ∧ vs.length ≤ k ∧ gs.length ≤ k ∧
    (∀ q ∈ rest, q.1 ≠ l ∧ q.1 ≠ gv)
theorem TabLed.mono {T dx l gv : Addr} {rows : List (List Nat × List Nat)} {given : List (List Nat)} {k k' : Nat} {nx : List (Addr × Obj)} (hk : k ≤ k') : TabLed T dx l gv rows given k nx → TabLed T dx l gv rows given k' nx := fun ⟨gs, gn, vs, nn, hs, tk, rest, e, hr, hgs, hrc, hvz, hgz, hrest⟩ => ⟨gs, gn, vs, nn, hs, tk, rest, e, hr, hgs, hrc, Nat.le_trans hvz hk, Nat.le_trans hgz hk, hrest⟩
/-- what _law_table gives -/
def TabRes (h0 : Heap) (v : Value) (h : Heap) (st : TabSt) : Prop := ∃ tp k T dx l gv gs gn vs nn hs tk rest, v = .ref tp ∧
  (∀ q ∈ (tp, tupObj [.ref T, .ref gv] k) :: (gv, listObj gs gn) :: (l, listObj vs nn) :: (T, instObj 234 dx) :: (dx, hdict hs tk l) :: rest, h.get? q.1 = some q.2 ∧ h0.get? q.1 = none) ∧
  RowsIn rest vs st.1 ∧ SvAll gs st.2 ∧ (∀ r ∈ st.1, NameOk r.1) ∧ vs.length ≤ 100 ∧ gs.length ≤ 100
def OffRest (ow rest : List (Addr × Obj)) : Prop := ∀ q ∈ rest, ∀ p ∈ ow, p.1 ≠ q.1
section
variable {w : World} {p : Program} {loose : List Str} {mg mb : Str → Option Value} {dp un : Nat} {fr : Option (List Env)} {gd : Option (List Code)} {s : Shared} {Q E : Value → Shared → Prop}
theorem tab_offer {h₀ : Heap} {L T dx l gv : Addr} {m : Str → Option Value} {rest ow : List (Addr × Obj)} {hs : Int} {thk t u : Tok} {vs gs : List Value} {nn gn : Nat} {rows : List (List Nat × List Nat)} {nm val : List Nat}
    (F : Fr h₀ L s.heap m) (N : News h₀ L s.heap ((gv, listObj gs gn) :: (l, listObj vs nn) :: (T, instObj 234 dx) :: (dx, hdict hs thk l) :: (rest ++ ow))) (H : Here w p loose mg mb h₀) (hd : dp + 60 < 1000)
    (hr : RowsIn rest vs rows) (hrest : ∀ q ∈ rest, q.1 ≠ l ∧ q.1 ≠ gv) (hoff : OffRest ow rest) (how : OwnOff ow [gv, l, T, dx]) (d1 : gv ≠ l) (d2 : T ≠ l) (d3 : dx ≠ l)
    (hrc : ∀ r ∈ rows, NameOk r.1) (hnm : NameOk nm) (hval : ValOk val) (hlen : vs.length ≤ 1000)
    (ret : ∀ vs' nn' rest' t' h' tk', Fr h₀ L h' m → News h₀ L h' ((gv, listObj gs gn) :: (l, listObj vs' nn') :: (T, instObj 234 dx) :: (dx, hdict hs thk l) :: (rest' ++ ow)) → RowsIn rest' vs' (hPut rows nm val) → (∀ q ∈ rest', q.1 ≠ l ∧ q.1 ≠ gv) → OffRest ow rest' → (∀ r ∈ hPut rows nm val, NameOk r.1) → vs'.length ≤ vs.length + 1 →
      Q (sv (hAns rows nm val) t') { s with heap := h', toks := tk' }) :
    wpAny (model PW w) (au dp un fr gd) (call (.ref 224) [.ref T, sv nm t, sv val u]) Q E s := by
  refine setdefault_led (pre := [(gv, listObj gs gn)]) (post := (T, instObj 234 dx) :: (dx, hdict hs thk l) :: (rest ++ ow)) (rest := rest) (rows := rows) (hs := hs) (thk := thk) F N H hd (.head _) (.tail _ (.head _)) hr (fun q hq => by simp [hq]) (fun q hq => by rw [List.mem_singleton.mp hq]; exact d1) ?_ hrc hnm hval hlen ?_
  · intro q hq
    rcases List.mem_cons.mp hq with rfl | hq
    · exact d2
    rcases List.mem_cons.mp hq with rfl | hq
    · exact d3
    rcases List.mem_append.mp hq with hq | hq
    · exact (hrest q hq).1
    · exact how q hq l (by simp)
  · intro vs' nn' el t' h' tk' F' N' he hr' hz
    have got : ∀ q ∈ (gv, listObj gs gn) :: (l, listObj vs nn) :: (T, instObj 234 dx) :: (dx, hdict hs thk l) :: (rest ++ ow), ∀ e ∈ el, e.1 ≠ q.1 := fun q hq e hel z => by
      have := (he e hel).2
      rw [z, (N q hq).1] at this
      cases this
    refine ret vs' nn' (rest ++ el) t' h' tk' F' (news_sub (fun q hq => ?_) N') hr' (fun q hq => ?_) (fun q hq p hp => ?_) (hPut_names hrc hnm) hz
    · simp only [List.mem_cons, List.mem_append, List.not_mem_nil, or_false] at hq ⊢
      rcases hq with h | h | h | h | (h | h) | h <;> simp [h]
    · rcases List.mem_append.mp hq with hq | hq
      · exact hrest q hq
      · exact ⟨(he q hq).1, got _ (.head _) q hq⟩
    · rcases List.mem_append.mp hq with hq | hq
      · exact hoff q hq p hp
      · exact (got p (by simp [hp]) q hq).symm
end
theorem ownOff_led {ow rest : List (Addr × Obj)} {gv l T dx : Addr} (h4 : OwnOff ow [gv, l, T, dx]) (h3 : OffRest ow rest) (a b c d : Obj) : OwnOff ow (((gv, a) :: (l, b) :: (T, c) :: (dx, d) :: rest).map (·.1)) := by
  intro q hq x hx
  simp only [List.map_cons, List.mem_cons] at hx
  rcases hx with h | h | h | h | hx
  · exact h4 q hq x (by simp [h])
  · exact h4 q hq x (by simp [h])
  · exact h4 q hq x (by simp [h])
  · exact h4 q hq x (by simp [h])
  · obtain ⟨y, hy, rfl⟩ := List.mem_map.mp hx
    exact h3 y hy q hq
theorem ownOff_sub {ow ow' : List (Addr × Obj)} {as : List Addr} (h : OwnOff ow as) (x : ∀ q ∈ ow', q ∈ ow) : OwnOff ow' as := fun q hq b hb => h q (x q hq) b hb
theorem offRest_sub {ow ow' rest : List (Addr × Obj)} (h : OffRest ow rest) (x : ∀ q ∈ ow', q ∈ ow) : OffRest ow' rest := fun b hb q hq => h b hb q (x q hq)
theorem ownOff_app {ow : List (Addr × Obj)} {as bs : List (Addr × Obj)} (h1 : OwnOff ow (as.map (·.1))) (h2 : OwnOff ow (bs.map (·.1))) : OwnOff ow ((as ++ bs).map (·.1)) := by
  intro q hq b hb
  rw [List.map_append] at hb
  exact (List.mem_append.mp hb).elim (h1 q hq b) (h2 q hq b)
theorem ownOff_right {ow : List (Addr × Obj)} {as bs : List (Addr × Obj)} (h : OwnOff ow ((as ++ bs).map (·.1))) : OwnOff ow (bs.map (·.1)) := fun q hq b hb => h q hq b (by rw [List.map_append]; exact List.mem_append.mpr (.inr hb))
theorem fmod2 {i : Nat} : (i : Int).fmod 2 = 1 ↔ i % 2 = 1 := by
  rw [Int.fmod_eq_emod_of_nonneg _ (by decide)]; omega
theorem val_eq (x y b : Nat) : (x : Int) * (y : Int) + (b : Int) = ((x * y + b : Nat) : Int) := by rw [Int.natCast_add, Int.natCast_mul]
theorem val_lt {x y b : Nat} (hx : x ≤ 19) (hy : y ≤ 19) (hb : b ≤ 5) : x * y + b < 16 ^ 5 := by
  have : x * y ≤ 19 * 19 := Nat.mul_le_mul hx hy
  omega
local macro_rules | `(tactic| walk_at "NOWALK") => `(tactic| first | (with_reducible show wpAny _ _ (call (Value.builtin "list.append") _ _) _ _ _) | fail)
section
variable {w : World} {p : Program} {loose : List Str} {mg mb : Str → Option Value} {dp un : Nat} {fr : Option (List Env)} {gd : Option (List Code)} {s : Shared} {Q E : Value → Shared → Prop}
theorem law_table_spec {fa : Addr} {fv : List Value} {fn : Nat} {tx : List Nat} {f : Nat → Nat} {t : Tok} (H : Here w p loose mg mb s.heap) (hd : dp + 90 < 1000)
    (htx : ∀ c ∈ tx, Sign c) (hlx : tx.length = 5) (hfa : s.heap.get? fa = some (listObj fv fn)) (hfv : ∀ i, i < 5 → ∃ t, fv[i]? = some (.int (f i : Nat) t)) (hf : ∀ i, f i ≤ 19)
    (ret : Ret s Q (fun v h => TabRes s.heap v h (tabEnd (rd tx 0) f))) : wpAny (model PW w) (au dp un fr gd) (call (.ref 257) [.str ⟨tx.toArray⟩ t, .ref fa]) Q E s := by
  have hrl : recursionLimit = 1000 := rfl
  k_dflt (refine' enterP (binds := [((PySem.Str.ofString "text"), .str ⟨tx.toArray⟩ t), ((PySem.Str.ofString "figures"), .ref fa)]) (mm := fun y_ => List.lookup y_ [((PySem.Str.ofString "figures"), .ref fa), ((PySem.Str.ofString "text"), .str ⟨tx.toArray⟩ t)]) (Here.X (by assumption)) (Here.T (by assumption)) ?k6 ?k7 ?k8 ?k9 ?kB ?hm ?_ ?c2 ?c3 ?c4 ?c5; (case k6 => k_is); (case k7 => k_is); (case k8 => (dsimp only; omega)); (case k9 => exact BindsTo.of_eq rfl); (case kB => exact locs rfl); (case hm => exact rfl); (case c5 => decide); (case c2 => exact rfl); (case c3 => exact rfl); (case c4 => exact rfl))
  intro L' h' F' N' X' T'
  k_fold
  walk_at "STEPSW"
  (with_reducible rename Fr _ _ _ _ => kF)
  (with_reducible rename News _ _ _ _ => kN)
  refine' headers_new kF kN ?h1 ?h2 ?_
  case h1 => walk_at "HERE"
  case h2 => walk_at "ROOM"
  intro T dx l hs thk h3 tk3 F3 N3 l1 l2 l3
  clear kF kN
  walk_at "STEPSW"
  obtain ⟨t0, hf0⟩ := hfv 0 (by decide)
  (with_reducible rename Fr _ _ _ _ => kF)
  (with_reducible rename News _ _ _ _ => kN)
  refine item_listL (l := fv) ⟨_, kF.keep _ _ hfa, rfl, _, rfl⟩ (by decide) (by decide) hf0 ?_
  walk_at "STEPSW"
  refine' law_word_spec ?h1 ?h2 ?h3 ?_
  case h1 => walk_at "HERE"
  case h2 => walk_at "ROOM"
  case h3 => have := hf 0; omega
  intro v9 h9 tk9 ext9 pv9
  (with_reducible rename Fr _ _ _ _ => kF)
  (with_reducible rename News _ _ _ _ => kN)
  replace kF := frExt kF ext9
  replace kN := newsExt kN ext9
  (try dsimp only at kF kN)
  obtain ⟨t9, rfl⟩ := pv9
  walk_at "STEPSW"
  have hne2 : ∀ q ∈ [(T, instObj 234 dx), (dx, dictOf [⟨hs, .str (Str.ofString "_headers") thk, .ref l⟩] 1)], q.1 ≠ l := by
    intro q hq e
    have e' : @Eq Nat q.1 l := e
    rcases List.mem_cons.mp hq with rfl | hq
    · dsimp only at e'; omega
    · rw [List.mem_singleton.mp hq] at e'; dsimp only at e'; omega
  refine' setdefault_led (pre := []) (rest := []) (rows := []) (nm := []) (hs := hs) (thk := thk) kF kN ?h1 ?h2 (.head _) (.tail _ (.head _)) .nil (fun _ h => nomatch h) (fun _ h => nomatch h) hne2 (fun _ h => nomatch h) ⟨fun _ h => (nomatch h), by decide⟩ (apF_val 5 _) (by decide) ?_
  case h1 => walk_at "HERE"
  case h2 => walk_at "ROOM"
  intro vs1 nn1 el1 t1 h1 tk1 F1 N1 he1 hr1 hz1
  clear kF kN
  walk_at "STEPSW"
  refine' law_read_spec ?h1 ?h2 htx (by omega) ?_
  case h1 => walk_at "HERE"
  case h2 => walk_at "ROOM"
  intro v9 h9 tk9 ext9 pv9
  (with_reducible rename Fr _ _ _ _ => kF)
  (with_reducible rename News _ _ _ _ => kN)
  replace kF := frExt kF ext9
  replace kN := newsExt kN ext9
  (try dsimp only at kF kN)
  obtain ⟨t2, rfl⟩ := pv9
  walk_at "STEPSW"
  refine forG s.heap ?_
  walk_at "STEPSW"
  (with_reducible rename Fr _ _ _ _ => kF)
  (with_reducible rename News _ _ _ _ => kN)
  refine range1_rows kF kN ?_
  intro h5 tk5 tr ur vr hrg F5 N5 _
  dsimp only at hrg F5 N5 ⊢
  obtain ⟨gv, hgv⟩ := frRef F5 (Str.ofString "given") rfl
  subst hgv
  clear kF kN
  have hlt : ∀ q ∈ (l, listObj vs1 nn1) :: (T, instObj 234 dx) :: (dx, hdict hs thk l) :: el1, @LT.lt Nat _ q.1 gv := by assumption
  have d1 : gv ≠ l := fun e => Nat.lt_irrefl _ (e ▸ hlt _ (.head _))
  have d2 : T ≠ l := fun e => Nat.lt_irrefl _ (e ▸ l3)
  have d3 : dx ≠ l := fun e => Nat.lt_irrefl _ (Nat.lt_trans l2 (e ▸ l3))
  have d4 : T ≠ gv := fun e => Nat.lt_irrefl _ (e ▸ hlt _ (.tail _ (.head _)))
  have d5 : dx ≠ gv := fun e => Nat.lt_irrefl _ (e ▸ hlt _ (.tail _ (.tail _ (.head _))))
  refine loopRange 5 (fun i m nx => TabLed T dx l gv (tabOut (rd tx 0) f (tab0 f) i).1 (tabOut (rd tx 0) f (tab0 f) i).2 (1 + 5 * i) nx ∧ ∃ (t1 : Tok) (u : Str → Option Value), m = loc [("text", .str ⟨tx.toArray⟩ t), ("figures", .ref fa), ("table", .ref T), ("given", .ref gv), ("number", .int ((rd tx 0 : Nat) : Int) t1)] u) hrg (by decide) (by decide) rfl (fun _ _ => rfl) (fr_loc F5 [("text", .str ⟨tx.toArray⟩ t), ("figures", .ref fa), ("table", .ref T), ("given", .ref gv), ("number", .int ((rd tx 0 : Nat) : Int) t2)] ⟨rfl, rfl, rfl, rfl, rfl, trivial⟩) N5 ?init ?step ?done
  case init =>
    have hr0 : ∀ r ∈ hPut [] [] (apF 5 (f 0)), NameOk r.1 := hPut_names (nm := []) (fun _ h => nomatch h) ⟨fun _ h => (nomatch h), by decide⟩
    exact ⟨⟨_, _, _, _, _, _, el1, rfl, hr1, .cons .nil, hr0, by simpa using hz1, by simp, fun q hq => ⟨(he1 q hq).1, fun e => Nat.lt_irrefl _ (e ▸ hlt q (by simp [hq]))⟩⟩, _, _, rfl⟩
  case step =>
    rintro i ti m₁ nx h tk own hi ⟨⟨gs, gn, vs, nn, hs, thk, rest, rfl, hr, hgs, hrc, hvz, hgz, hrest⟩, t3, u, rfl⟩ hoff F N
    rw [show (0 : Int) + (i : Int) = (i : Int) by omega]
    clear N5 F5
    refine wpAny_assign_Name ?_
    dsimp only [List.cons_append] at N
    walk_at "STEPSW"
    refine forG s.heap ?_
    walk_at "STEPSW"
    (with_reducible rename Fr _ _ _ _ => kF)
    (with_reducible rename News _ _ _ _ => kN)
    refine range2_rows kF kN ?_
    intro h6 tk6 tr6 ur6 vr6 hrg6 F6 N6 _
    dsimp only at hrg6 F6 N6 ⊢
    clear kF kN
    refine loopRange (5 - i) (fun j m nx => (∃ nx0, nx = nx0 ++ own ∧ OwnOff own (nx0.map (·.1)) ∧ TabLed T dx l gv (tabIn (rd tx 0) f i (tabOut (rd tx 0) f (tab0 f) i) j).1 (tabIn (rd tx 0) f i (tabOut (rd tx 0) f (tab0 f) i) j).2 (1 + 5 * i + j) nx0) ∧ ∃ (t1 t2 : Tok) (u : Str → Option Value), m = loc [("text", .str ⟨tx.toArray⟩ t), ("figures", .ref fa), ("table", .ref T), ("given", .ref gv), ("number", .int ((rd tx 0 : Nat) : Int) t1), ("start", .int (i : Int) t2)] u) hrg6 ?sm ?sz rfl (fun _ _ => rfl) (fr_loc F6 [("text", .str ⟨tx.toArray⟩ t), ("figures", .ref fa), ("table", .ref T), ("given", .ref gv), ("number", .int ((rd tx 0 : Nat) : Int) t3), ("start", .int (i : Int) ti)] ⟨rfl, rfl, rfl, rfl, rfl, rfl, trivial⟩) N6 ?init2 ?step2 ?done2
    case sm => exact small_one (by omega) (by omega) (by decide) (by decide)
    case sz => rw [rangeSize_nat]; omega
    case init2 => exact ⟨⟨_, rfl, hoff, _, _, _, _, _, _, rest, rfl, hr, hgs, hrc, hvz, hgz, hrest⟩, _, _, _, rfl⟩
    case step2 =>
      clear N6 F6 F N hr hgs hrc hvz hgz hrest hoff hrg6
      rintro j tj m₁ nx h7 tk7 ow hj ⟨⟨nx0, rfl, hoff, gs, gn, vs, nn, hs, thk, rest, rfl, hr, hgs, hrc, hvz, hgz, hrest⟩, t3, t4, u, rfl⟩ hoff7 F N
      rw [show (i : Int) + 1 + (j : Int) = ((i + 1 + j : Nat) : Int) by omega]
      refine wpAny_assign_Name ?_
      dsimp only [List.cons_append] at N
      rw [List.append_assoc] at N
      have off4 : OwnOff (own ++ ow) [gv, l, T, dx] := by
        intro q hq b hb
        rcases List.mem_append.mp hq with hq | hq
        · exact hoff q hq b (by simp only [List.mem_cons, List.not_mem_nil, or_false] at hb; rcases hb with h | h | h | h <;> simp [h])
        · exact hoff7 q hq b (by simp only [List.mem_cons, List.not_mem_nil, or_false] at hb; rcases hb with h | h | h | h <;> simp [h])
      have off3 : OffRest (own ++ ow) rest := by
        intro b hb q hq
        rcases List.mem_append.mp hq with hq | hq
        · exact hoff q hq b.1 (List.mem_map.mpr ⟨b, by simp [hb], rfl⟩)
        · exact hoff7 q hq b.1 (List.mem_map.mpr ⟨b, by simp [hb], rfl⟩)
      walk_at "STEPSW"
      refine' rshift_spec ?h1 ?h2 ?h3 ?_
      case h1 => walk_at "HERE"
      case h2 => walk_at "ROOM"
      case h3 => omega
      intro v9 h9 tk9 ext9 pv9
      (with_reducible rename Fr _ _ _ _ => kF)
      (with_reducible rename News _ _ _ _ => kN)
      replace kF := frExt kF ext9
      replace kN := newsExt kN ext9
      (try dsimp only at kF kN)
      obtain ⟨t9, rfl⟩ := pv9
      walk_at "STEPSW"
      refine' lshift_spec ?h1 ?h2 ?h3 ?h4 (by decide) ?_
      case h1 => walk_at "HERE"
      case h2 => walk_at "ROOM"
      case h3 => omega
      case h4 => omega
      intro v9 h9 tk9 ext9 pv9
      (with_reducible rename Fr _ _ _ _ => kF)
      (with_reducible rename News _ _ _ _ => kN)
      replace kF := frExt kF ext9
      replace kN := newsExt kN ext9
      (try dsimp only at kF kN)
      obtain ⟨t8, rfl⟩ := pv9
      walk_at "STEPSW"
      refine' sub_spec ?h1 ?h2 ?_
      case h1 => walk_at "HERE"
      case h2 => walk_at "ROOM"
      intro v9 h9 tk9 ext9 pv9
      (with_reducible rename Fr _ _ _ _ => kF)
      (with_reducible rename News _ _ _ _ => kN)
      replace kF := frExt kF ext9
      replace kN := newsExt kN ext9
      (try dsimp only at kF kN)
      obtain ⟨t10, rfl⟩ := pv9
      walk_at "STEPSW"
      refine' and_spec ?h1 ?h2 ?_
      case h1 => walk_at "HERE"
      case h2 => walk_at "ROOM"
      intro v9 h9 tk9 ext9 pv9
      (with_reducible rename Fr _ _ _ _ => kF)
      (with_reducible rename News _ _ _ _ => kN)
      replace kF := frExt kF ext9
      replace kN := newsExt kN ext9
      (try dsimp only at kF kN)
      obtain ⟨t11, rfl⟩ := pv9
      rw [stretch_eq (rd tx 0) i (i + 1 + j) (by omega) (by omega) rfl rfl]
      walk_at "STEPSW"
      refine' law_word_spec ?h1 ?h2 (stretch_lt _ _ _ (by omega)) ?_
      case h1 => walk_at "HERE"
      case h2 => walk_at "ROOM"
      intro v9 h9 tk9 ext9 pv9
      (with_reducible rename Fr _ _ _ _ => kF)
      (with_reducible rename News _ _ _ _ => kN)
      replace kF := frExt kF ext9
      replace kN := newsExt kN ext9
      (try dsimp only at kF kN)
      obtain ⟨t12, rfl⟩ := pv9
      have hap := apF_name (stretchN (rd tx 0) i (i + 1 + j))
      have hnm := nameOf_ok (rd tx 0) i (i + 1 + j)
      walk_at "STEPSW"
      · have hp := fmod2.mp (by assumption : (i : Int).fmod 2 = 1)
        (with_reducible rename Fr _ _ _ _ => kF)
        (with_reducible rename News _ _ _ _ => kN)
        rw [show lowL (apF 5 (stretchN (rd tx 0) i (i + 1 + j))) = nameOf (rd tx 0) i (i + 1 + j) from (if_pos hp).symm] at kF ⊢
        obtain ⟨tf, hfi⟩ := hfv i hi
        refine item_listL (l := fv) ⟨_, kF.keep _ _ hfa, rfl, _, rfl⟩ (by omega) (by omega) (by simpa using hfi) ?_
        walk_at "STEPSW"
        (with_reducible rename Fr _ _ _ _ => kF)
        (with_reducible rename News _ _ _ _ => kN)
        obtain ⟨tg, hfj⟩ := hfv (i + 1 + j - 1) (by omega)
        refine item_listL (l := fv) ⟨_, kF.keep _ _ hfa, rfl, _, rfl⟩ (by omega) (by omega) (by rw [show (((i + 1 + j : Nat) : Int) - 1).toNat = i + 1 + j - 1 by omega]; exact hfj) ?_
        walk_at "STEPSW"
        have hf9 := hf i
        refine mul_int (hm := IntMulOk.of_left (intBits_le_64 (by omega) (by omega))) ?_
        walk_at "STEPSW"
        rw [val_eq]
        refine' law_word_spec ?h1 ?h2 (val_lt (hf _) (hf _) (by omega)) ?_
        case h1 => walk_at "HERE"
        case h2 => walk_at "ROOM"
        intro v9 h9 tk9 ext9 pv9
        (with_reducible rename Fr _ _ _ _ => kF)
        (with_reducible rename News _ _ _ _ => kN)
        replace kF := frExt kF ext9
        replace kN := newsExt kN ext9
        (try dsimp only at kF kN)
        obtain ⟨t13, rfl⟩ := pv9
        walk_at "STEPSW"
        (with_reducible rename Fr _ _ _ _ => kF)
        (with_reducible rename News _ _ _ _ => kN)
        refine' tab_offer (rows := (tabIn (rd tx 0) f i (tabOut (rd tx 0) f (tab0 f) i) j).1) kF kN ?h1 ?h2 hr hrest ?h3 ?h4 d1 d2 d3 hrc hnm (apF_val 5 _) ?h5 ?_
        case h1 => walk_at "HERE"
        case h2 => walk_at "ROOM"
        case h3 => exact off3
        case h4 => exact off4
        case h5 => omega
        clear kF kN
        intro vs8 nn8 rest8 t8 h8 tk8 F8 N8 hr8 hrest8 off8 hrc8 hz8
        walk_at "STEPSW"
        (with_reducible rename Fr _ _ _ _ => kF)
        (with_reducible rename News _ _ _ _ => kN)
        refine' append_K kF kN (Upd.head ?u) ?_ ?z
        case u =>
          intro q hq
          rcases List.mem_cons.mp hq with rfl | hq
          · exact d1.symm
          rcases List.mem_cons.mp hq with rfl | hq
          · exact d4
          rcases List.mem_cons.mp hq with rfl | hq
          · exact d5
          rcases List.mem_append.mp hq with hq | hq
          · exact (hrest8 q hq).2
          · exact off4 q hq gv (by simp)
        case z => (show gs.toArray.size ≤ 2 ^ 24); rw [List.size_toArray]; omega
        clear kF kN
        intro h9 F9 N9
        dsimp only at F9 N9 ⊢
        walk_at "STEPSW"
        (with_reducible rename Fr _ _ _ _ => kF)
        (with_reducible rename News _ _ _ _ => kN)
        rw [List.push_toArray] at kN
        have o3 := ownOff_led off4 off8 (listObj (gs ++ [sv (hAns (tabIn (rd tx 0) f i (tabOut (rd tx 0) f (tab0 f) i) j).1 (nameOf (rd tx 0) i (i + 1 + j)) (apF 5 (f i * f (i + 1 + j - 1) + (i + 1 + j)))) t8]) (gn + 1)) (listObj vs8 nn8) (instObj 234 dx) (hdict hs thk l)
        refine ⟨_, _, _, ((gv, listObj (gs ++ [sv (hAns (tabIn (rd tx 0) f i (tabOut (rd tx 0) f (tab0 f) i) j).1 (nameOf (rd tx 0) i (i + 1 + j)) (apF 5 (f i * f (i + 1 + j - 1) + (i + 1 + j)))) t8]) (gn + 1)) :: (l, listObj vs8 nn8) :: (T, instObj 234 dx) :: (dx, hdict hs thk l) :: rest8) ++ own, rfl, fr_loc kF [("text", .str ⟨tx.toArray⟩ t), ("figures", .ref fa), ("table", .ref T), ("given", .ref gv), ("number", .int ((rd tx 0 : Nat) : Int) t3), ("start", .int (i : Int) t4)] ⟨rfl, rfl, rfl, rfl, rfl, rfl, trivial⟩, ?nw, ownOff_app (ownOff_sub o3 fun q hq => by simp [hq]) (ownOff_right hoff7), ⟨_, rfl, ownOff_sub o3 fun q hq => by simp [hq], _, _, vs8, nn8, hs, thk, rest8, rfl, ?r1, ?r2, ?r3, by omega, by rw [List.length_append, List.length_singleton]; omega, hrest8⟩, _, _, _, rfl⟩
        case nw => rw [List.append_assoc]; exact kN
        case r1 => rw [tabIn_succ]; exact hr8
        case r2 => rw [tabIn_succ]; exact hgs.snoc
        case r3 => rw [tabIn_succ]; exact hrc8
      · have hp := fun e => (by assumption : (i : Int).fmod 2 ≠ 1) (fmod2.mpr e)
        (with_reducible rename Fr _ _ _ _ => kF)
        (with_reducible rename News _ _ _ _ => kN)
        rw [show apF 5 (stretchN (rd tx 0) i (i + 1 + j)) = nameOf (rd tx 0) i (i + 1 + j) from (if_neg hp).symm] at kF ⊢
        obtain ⟨tf, hfi⟩ := hfv i hi
        refine item_listL (l := fv) ⟨_, kF.keep _ _ hfa, rfl, _, rfl⟩ (by omega) (by omega) (by simpa using hfi) ?_
        walk_at "STEPSW"
        (with_reducible rename Fr _ _ _ _ => kF)
        (with_reducible rename News _ _ _ _ => kN)
        obtain ⟨tg, hfj⟩ := hfv (i + 1 + j - 1) (by omega)
        refine item_listL (l := fv) ⟨_, kF.keep _ _ hfa, rfl, _, rfl⟩ (by omega) (by omega) (by rw [show (((i + 1 + j : Nat) : Int) - 1).toNat = i + 1 + j - 1 by omega]; exact hfj) ?_
        walk_at "STEPSW"
        have hf9 := hf i
        refine mul_int (hm := IntMulOk.of_left (intBits_le_64 (by omega) (by omega))) ?_
        walk_at "STEPSW"
        rw [val_eq]
        refine' law_word_spec ?h1 ?h2 (val_lt (hf _) (hf _) (by omega)) ?_
        case h1 => walk_at "HERE"
        case h2 => walk_at "ROOM"
        intro v9 h9 tk9 ext9 pv9
        (with_reducible rename Fr _ _ _ _ => kF)
        (with_reducible rename News _ _ _ _ => kN)
        replace kF := frExt kF ext9
        replace kN := newsExt kN ext9
        (try dsimp only at kF kN)
        obtain ⟨t13, rfl⟩ := pv9
        walk_at "STEPSW"
        (with_reducible rename Fr _ _ _ _ => kF)
        (with_reducible rename News _ _ _ _ => kN)
        refine' tab_offer (rows := (tabIn (rd tx 0) f i (tabOut (rd tx 0) f (tab0 f) i) j).1) kF kN ?h1 ?h2 hr hrest ?h3 ?h4 d1 d2 d3 hrc hnm (apF_val 5 _) ?h5 ?_
        case h1 => walk_at "HERE"
        case h2 => walk_at "ROOM"
        case h3 => exact off3
        case h4 => exact off4
        case h5 => omega
        clear kF kN
        intro vs8 nn8 rest8 t8 h8 tk8 F8 N8 hr8 hrest8 off8 hrc8 hz8
        walk_at "STEPSW"
        (with_reducible rename Fr _ _ _ _ => kF)
        (with_reducible rename News _ _ _ _ => kN)
        refine' append_K kF kN (Upd.head ?u) ?_ ?z
        case u =>
          intro q hq
          rcases List.mem_cons.mp hq with rfl | hq
          · exact d1.symm
          rcases List.mem_cons.mp hq with rfl | hq
          · exact d4
          rcases List.mem_cons.mp hq with rfl | hq
          · exact d5
          rcases List.mem_append.mp hq with hq | hq
          · exact (hrest8 q hq).2
          · exact off4 q hq gv (by simp)
        case z => (show gs.toArray.size ≤ 2 ^ 24); rw [List.size_toArray]; omega
        clear kF kN
        intro h9 F9 N9
        dsimp only at F9 N9 ⊢
        walk_at "STEPSW"
        (with_reducible rename Fr _ _ _ _ => kF)
        (with_reducible rename News _ _ _ _ => kN)
        rw [List.push_toArray] at kN
        have o3 := ownOff_led off4 off8 (listObj (gs ++ [sv (hAns (tabIn (rd tx 0) f i (tabOut (rd tx 0) f (tab0 f) i) j).1 (nameOf (rd tx 0) i (i + 1 + j)) (apF 5 (f i * f (i + 1 + j - 1) + (i + 1 + j)))) t8]) (gn + 1)) (listObj vs8 nn8) (instObj 234 dx) (hdict hs thk l)
        refine ⟨_, _, _, ((gv, listObj (gs ++ [sv (hAns (tabIn (rd tx 0) f i (tabOut (rd tx 0) f (tab0 f) i) j).1 (nameOf (rd tx 0) i (i + 1 + j)) (apF 5 (f i * f (i + 1 + j - 1) + (i + 1 + j)))) t8]) (gn + 1)) :: (l, listObj vs8 nn8) :: (T, instObj 234 dx) :: (dx, hdict hs thk l) :: rest8) ++ own, rfl, fr_loc kF [("text", .str ⟨tx.toArray⟩ t), ("figures", .ref fa), ("table", .ref T), ("given", .ref gv), ("number", .int ((rd tx 0 : Nat) : Int) t3), ("start", .int (i : Int) t4)] ⟨rfl, rfl, rfl, rfl, rfl, rfl, trivial⟩, ?nw, ownOff_app (ownOff_sub o3 fun q hq => by simp [hq]) (ownOff_right hoff7), ⟨_, rfl, ownOff_sub o3 fun q hq => by simp [hq], _, _, vs8, nn8, hs, thk, rest8, rfl, ?r1, ?r2, ?r3, by omega, by rw [List.length_append, List.length_singleton]; omega, hrest8⟩, _, _, _, rfl⟩
        case nw => rw [List.append_assoc]; exact kN
        case r1 => rw [tabIn_succ]; exact hr8
        case r2 => rw [tabIn_succ]; exact hgs.snoc
        case r3 => rw [tabIn_succ]; exact hrc8
    case done2 =>
      clear N6 F6 F N hr hgs hrc hvz hgz hrest hoff hrg6
      rintro h7 tk7 m₁ nx F N ⟨⟨nx0, rfl, hoff, led⟩, t3, t4, u, rfl⟩
      walk_at "STEPSW"
      (with_reducible rename Fr _ _ _ _ => kF)
      (with_reducible rename News _ _ _ _ => kN)
      exact ⟨_, _, _, nx0, rfl, fr_loc kF [("text", .str ⟨tx.toArray⟩ t), ("figures", .ref fa), ("table", .ref T), ("given", .ref gv), ("number", .int ((rd tx 0 : Nat) : Int) t3)] ⟨rfl, rfl, rfl, rfl, rfl, trivial⟩, kN, hoff, by rw [tabOut_succ]; exact led.mono (by omega), _, _, rfl⟩
  case done =>
    clear N5 F5 hr1 hlt he1 hrg
    rintro h7 tk7 m₁ nx F N ⟨⟨gs, gn, vs, nn, hs, thk, rest, rfl, hr, hgs, hrc, hvz, hgz, hrest⟩, t3, u, rfl⟩
    replace N : News s.heap L' h7 ((gv, listObj gs gn) :: (l, listObj vs nn) :: (T, instObj 234 dx) :: (dx, hdict hs thk l) :: (rest ++ [])) := by rw [List.append_nil]; exact N
    walk_at "STEPSW"
    (with_reducible rename Fr _ _ _ _ => kF)
    (with_reducible rename News _ _ _ _ => kN)
    obtain ⟨tf, hfi⟩ := hfv 4 (by decide)
    refine item_listL (l := fv) ⟨_, kF.keep _ _ hfa, rfl, _, rfl⟩ (by decide) (by decide) hfi ?_
    walk_at "STEPSW"
    refine' law_word_spec ?h1 ?h2 ?h3 ?_
    case h1 => walk_at "HERE"
    case h2 => walk_at "ROOM"
    case h3 => have := hf 4; omega
    intro v9 h9 tk9 ext9 pv9
    (with_reducible rename Fr _ _ _ _ => kF)
    (with_reducible rename News _ _ _ _ => kN)
    replace kF := frExt kF ext9
    replace kN := newsExt kN ext9
    (try dsimp only at kF kN)
    obtain ⟨t13, rfl⟩ := pv9
    walk_at "STEPSW"
    (with_reducible rename Fr _ _ _ _ => kF)
    (with_reducible rename News _ _ _ _ => kN)
    have hnil : NameOk [] := ⟨fun _ h => (nomatch h), by decide⟩
    refine' tab_offer (nm := []) (rows := (tabOut (rd tx 0) f (tab0 f) 5).1) kF kN ?h1 ?h2 hr hrest (fun _ _ _ h => nomatch h) (fun _ h => nomatch h) d1 d2 d3 hrc hnil (apF_val 5 _) (by omega) ?_
    case h1 => walk_at "HERE"
    case h2 => walk_at "ROOM"
    clear kF kN
    intro vs8 nn8 rest8 t8 h8 tk8 F8 N8 hr8 hrest8 off8 hrc8 hz8
    walk_at "STEPSW"
    (with_reducible rename Fr _ _ _ _ => kF)
    (with_reducible rename News _ _ _ _ => kN)
    refine' append_K kF kN (Upd.head ?u) ?_ ?z
    case u =>
      intro q hq
      rcases List.mem_cons.mp hq with rfl | hq
      · exact d1.symm
      rcases List.mem_cons.mp hq with rfl | hq
      · exact d4
      rcases List.mem_cons.mp hq with rfl | hq
      · exact d5
      rw [List.append_nil] at hq
      exact (hrest8 q hq).2
    case z => (show gs.toArray.size ≤ 2 ^ 24); rw [List.size_toArray]; omega
    clear kF kN
    intro h9 F9 N9
    dsimp only at F9 N9 ⊢
    walk_at "STEPSW"
    dsimp only
    (with_reducible rename Fr _ _ _ _ => kF)
    (with_reducible rename News _ _ _ _ => kN)
    rw [List.push_toArray, List.append_nil] at kN
    have kN2 := fun q hq => And.intro (kN q hq).1 (kN q hq).2.2
    refine ret _ _ _ kF.keep ?_
    refine ⟨_, _, T, dx, l, gv, _, _, vs8, nn8, hs, thk, rest8, rfl, kN2, ?_, ?_, ?_, ?_, ?_⟩
    · rw [tabEnd_rows]; exact hr8
    · rw [tabEnd_given]; exact hgs.snoc
    · rw [tabEnd_rows]; exact hrc8
    · omega
    · rw [List.length_append, List.length_singleton]; omega
end
abbrev DOTS : Str := Str.ofString "..."
open Builtin.Str in
def find4 (x y : Str) (i j : Int) : Int := match occurrences x y (fromIndex x.length i) (min (fromIndex x.length j) x.length) 1 with | k :: _ => (k : Int) | [] => -1
theorem gives_find4 (x y : Str) (i j : Int) (t u v z : Tok) : Gives (Builtin.«str.find» ⟨[.str x t, .str y u, .int i v, .int j z], []⟩) (.int (find4 x y i j)) := by
  show Gives (match Builtin.Str.occurrences x y (fromIndex x.length i) (min (fromIndex x.length j) x.length) 1 with | k :: _ => retInt k | [] => (do rule "str.find.not-found"; retInt (-1))) _
  unfold find4
  cases Builtin.Str.occurrences x y (fromIndex x.length i) (min (fromIndex x.length j) x.length) 1 with
  | nil => exact .rule (.of_eq rfl)
  | cons k _ => exact .of_eq rfl
section
variable {prog : Program} {w : World} {A : Around} {E : Value → Shared → Prop} {s : Shared} {x y : Str} {t u v z : Tok} {i j : Int} {Q : Value → Shared → Prop}
theorem call_find4 (hq : Q (.int (find4 x y i j) s.toks) { s with toks := s.toks + 1 }) : wpAny (model prog w) A (call (.builtin "str.find") [.str x t, .str y u, .int i v, .int j z]) Q E s :=
  call_gives PySem.F.slot_str_find (typeIs_str _ _ _) PySem.F.entry_str_find (PySem.F.args_str_find_4 _ _ _ _) (gives_find4 x y i j t u v z) hq
end
/-- the pieces are found one after the other -/
def ellRun (got : Str) (ep : Int) : Int → List Str → Bool
  | _, [] => true
  | sp, w :: ws => if find4 got w sp ep < 0 then false else ellRun got ep (find4 got w sp ep + (w.length : Int)) ws
def ellB (got : Str) (sp : Int) (pss : List Str) (b : Str) : Bool :=
  if b.length = 0 then (if sp > got.length then false else ellRun got got.length sp (pss ++ [b]))
  else if Txt.endswith got b = false then false
  else if sp > (got.length : Int) - b.length then false else ellRun got ((got.length : Int) - b.length) sp pss
def ellW (a b : Str) (mid : List Str) (got : Str) : Bool :=
  if a.length = 0 then ellB got 0 (a :: mid) b else if Txt.startswith got a = false then false else ellB got a.length mid b
theorem StrsAre.snoc' {b : Str} {tb : Tok} : ∀ {vs : List Value} {ss : List Str}, StrsAre vs ss → StrsAre (vs ++ [.str b tb]) (ss ++ [b])
  | _, _, .nil => .cons _ _ .nil
  | _, _, .cons _ _ r => .cons _ _ (StrsAre.snoc' r)
theorem StrsAre.get' : ∀ {vs : List Value} {ss : List Str}, StrsAre vs ss → ∀ {i : Nat} {v : Value}, vs[i]? = some v → ∃ c t, v = .str c t ∧ ss[i]? = some c
  | _, _, .nil, _, _, e => by simp at e
  | _, _, .cons a t r, 0, v, e => by simp at e; exact ⟨a, t, e.symm, rfl⟩
  | _, _, .cons a t r, i + 1, v, e => by simpa using StrsAre.get' r (i := i) (by simpa using e)
theorem erase_last (vi : List Value) (v : Value) : ((vi ++ [v]).toArray.toList.eraseIdx vi.length).toArray = vi.toArray := by
  rw [List.eraseIdx_append_of_length_le (Nat.le_refl _)]; simp
theorem seq_last (vi : List Value) (v : Value) : seqIndex? (-1) (vi ++ [v]).toArray.size = some vi.length := by
  have h1 : (if (-1 : Int) < 0 then -1 + (((vi ++ [v]).toArray.size : Nat) : Int) else -1) = ((vi.length : Nat) : Int) := by
    rw [if_pos (by decide), List.size_toArray, List.length_append, List.length_singleton]; omega
  unfold seqIndex?
  simp only [h1]
  rw [if_pos (by simp; omega)]
  simp
theorem seq_first (v : Value) (vi : List Value) : seqIndex? 0 (v :: vi).toArray.size = some 0 := by
  unfold seqIndex?
  simp
theorem drop_of_get {α : Type} {l : List α} {i : Nat} {c : α} (h : l[i]? = some c) : l.drop i = c :: l.drop (i + 1) := by
  obtain ⟨hi, e⟩ := List.getElem?_eq_some_iff.mp h
  rw [List.drop_eq_getElem_cons hi, e]
theorem ellRun_cons (got : Str) (ep sp : Int) (c : Str) (r : List Str) : ellRun got ep sp (c :: r) = if find4 got c sp ep < 0 then false else ellRun got ep (find4 got c sp ep + (c.length : Int)) r := rfl
theorem strs_ends {vs : List Value} {a b : Str} {mid : List Str} (h : StrsAre vs (a :: (mid ++ [b]))) : ∃ ta vm tb, vs = .str a ta :: (vm ++ [.str b tb]) ∧ StrsAre vm mid := by
  cases h with
  | cons _ ta r =>
    refine ⟨ta, ?_⟩
    rename_i vs
    have : ∀ (mid : List Str) (vs : List Value), StrsAre vs (mid ++ [b]) → ∃ vm tb, vs = vm ++ [.str b tb] ∧ StrsAre vm mid := by
      intro mid
      induction mid with
      | nil =>
        intro vs h
        cases h with
        | cons _ tb r => cases r; exact ⟨[], tb, rfl, .nil⟩
      | cons c mid ih =>
        intro vs h
        cases h with
        | cons _ tc r =>
          obtain ⟨vm, tb, rfl, h'⟩ := ih _ r
          exact ⟨_, tb, rfl, .cons _ tc h'⟩
    obtain ⟨vm, tb, rfl, h'⟩ := this mid vs r
    exact ⟨vm, tb, rfl, h'⟩
local macro_rules | `(tactic| walk_at "NOWALK") => `(tactic| first | (with_reducible show wpAny _ _ (call (Value.builtin "str.split") _ _) _ _ _) | (with_reducible show wpAny _ _ (delItem _ _) _ _ _) | (with_reducible show wpAny _ _ (call (Value.builtin "str.find") _ _) _ _ _) | fail)
section
variable {w : World} {p : Program} {loose : List Str} {mg mb : Str → Option Value} {dp un : Nat} {fr : Option (List Env)} {gd : Option (List Code)} {s : Shared} {Q E : Value → Shared → Prop}
theorem ell_none {want got : Str} {t u : Tok} (H : Here w p loose mg mb s.heap) (hd : dp + 10 < 1000) (hc : (Builtin.Str.occurrences want DOTS 0 want.length 1).isEmpty = true)
    (ret : Ret s Q (fun v _ => v = .bool (want.1.toList == got.1.toList))) : wpAny (model PW w) (au dp un fr gd) (call (.ref 45) [.str want t, .str got u]) Q E s := by
  have hrl : recursionLimit = 1000 := rfl
  k_dflt (refine' enterP (binds := [((PySem.Str.ofString "want"), .str want t), ((PySem.Str.ofString "got"), .str got u)]) (mm := fun y_ => List.lookup y_ [((PySem.Str.ofString "got"), .str got u), ((PySem.Str.ofString "want"), .str want t)]) (Here.X (by assumption)) (Here.T (by assumption)) ?k6 ?k7 ?k8 ?k9 ?kB ?hm ?_ ?c2 ?c3 ?c4 ?c5; (case k6 => k_is); (case k7 => k_is); (case k8 => (dsimp only; omega)); (case k9 => exact BindsTo.of_eq rfl); (case kB => exact locs rfl); (case hm => exact rfl); (case c5 => decide); (case c2 => exact rfl); (case c3 => exact rfl); (case c4 => exact rfl))
  intro L' h' F' N' X' T'
  k_fold
  walk_at "STEPSW"
  walk_at "DONE"
  rfl
theorem ell_some {want got a b : Str} {mid : List Str} {t u : Tok} (H : Here w p loose mg mb s.heap) (hd : dp + 10 < 1000) (hc : (Builtin.Str.occurrences want DOTS 0 want.length 1).isEmpty = false) (hs : Txt.split want DOTS = a :: (mid ++ [b])) (hma : ∀ c ∈ a :: (mid ++ [b]), c.length < 1000) (hmz : mid.length < 1000) (hz : want.length < 1000) (hz2 : got.length < 1000)
    (ret : Ret s Q (fun v _ => v = .bool (ellW a b mid got))) : wpAny (model PW w) (au dp un fr gd) (call (.ref 45) [.str want t, .str got u]) Q E s := by
  have hrl : recursionLimit = 1000 := rfl
  k_dflt (refine' enterP (binds := [((PySem.Str.ofString "want"), .str want t), ((PySem.Str.ofString "got"), .str got u)]) (mm := fun y_ => List.lookup y_ [((PySem.Str.ofString "got"), .str got u), ((PySem.Str.ofString "want"), .str want t)]) (Here.X (by assumption)) (Here.T (by assumption)) ?k6 ?k7 ?k8 ?k9 ?kB ?hm ?_ ?c2 ?c3 ?c4 ?c5; (case k6 => k_is); (case k7 => k_is); (case k8 => (dsimp only; omega)); (case k9 => exact BindsTo.of_eq rfl); (case kB => exact locs rfl); (case hm => exact rfl); (case c5 => decide); (case c2 => exact rfl); (case c3 => exact rfl); (case c4 => exact rfl))
  intro L' h' F' N' X' T'
  k_fold
  walk_at "STEPSW"
  · (with_reducible rename Fr _ _ _ _ => kF)
    (with_reducible rename News _ _ _ _ => kN)
    refine KSpl.split1 kF kN rfl ?_ (by show want.length + 2 ≤ 2 ^ 24; omega)
    intro D l h2 k2 hl hst F2 N2 _
    clear kF kN
    rw [show Txt.split want (Str.ofString "...") = a :: (mid ++ [b]) from hs] at hl
    rw [hl] at hst
    generalize strValues l = vs at *
    obtain ⟨ta, vm, tb, rfl, hvm⟩ := strs_ends hst
    clear hst hl
    have hlen := hvm.length
    walk_at "STEPSW"
    (with_reducible rename Fr _ _ _ _ => kF)
    (with_reducible rename News _ _ _ _ => kN)
    refine len_list ⟨_, (kN _ (.head _)).1, rfl, _, rfl⟩ ?_ ?_
    · rw [List.size_toArray, List.length_cons, List.length_append, List.length_singleton]; omega
    rw [show (((Value.str a ta :: (vm ++ [Value.str b tb])).toArray.size : Nat) : Int) = ((mid.length + 2 : Nat) : Int) by rw [List.size_toArray, List.length_cons, List.length_append, List.length_singleton, hlen]]
    walk_at "STEPSW"
    (with_reducible rename Fr _ _ _ _ => kF)
    (with_reducible rename News _ _ _ _ => kN)
    replace kN := news_sub (fun q (hq : q ∈ [(D, W.listOf (Value.str a ta :: (vm ++ [Value.str b tb])).toArray 0)]) => List.mem_cons_of_mem _ hq) kN
    refine item_listL (l := Value.str a ta :: (vm ++ [Value.str b tb])) ⟨_, (kN _ (.head _)).1, rfl, _, rfl⟩ (by decide) (by decide) rfl ?_
    walk_at "STEPSW"
    refine SBL.truthy (by have := hma a (by simp); omega) ?_
    by_cases ha : a.length = 0
    · rw [show ((a.length : Int) != 0) = false by simp [ha]]
      walk_at "STEPSW"
      (with_reducible rename Fr _ _ _ _ => kF)
      (with_reducible rename News _ _ _ _ => kN)
      have hR : ellW a b mid got = ellB got 0 (a :: mid) b := if_pos ha
      have hps : StrsAre (Value.str a ta :: vm) (a :: mid) := .cons _ _ hvm
      replace kN : News _ _ _ [(D, listObj ((Value.str a ta :: vm) ++ [Value.str b tb]) 0)] := kN
      refine item_last (vi := (Value.str a ta :: vm)) (v := Value.str b tb) ⟨_, (kN _ (.head _)).1, rfl, _, rfl⟩ ?_
      walk_at "STEPSW"
      refine SBL.truthy (by have := hma b (by simp); omega) ?_
      by_cases hb : b.length = 0
      · rw [show ((b.length : Int) != 0) = false by simp [hb]]
        have hR2 : ellB got 0 (a :: mid) b = (if 0 > (got.length : Int) then false else ellRun got got.length 0 ((a :: mid) ++ [b])) := if_pos hb
        by_cases hgt : 0 > (got.length : Int)
        · rw [if_pos hgt] at hR2
          walk_at "STEPSW"
          walk_at "DONE"
          rw [hR, hR2]
        · rw [if_neg hgt] at hR2
          walk_at "STEPSW"
          have hfin : ellRun got got.length 0 ((a :: mid) ++ [b]) = ellW a b mid got := (hR.trans hR2).symm
          have hzs : StrsAre ((Value.str a ta :: vm) ++ [Value.str b tb]) ((a :: mid) ++ [b]) := StrsAre.snoc' hps
          have hsub : ∀ c ∈ (a :: mid) ++ [b], c ∈ a :: (mid ++ [b]) := by intro c hc; simp at hc ⊢; grind
          (with_reducible rename Fr _ _ _ _ => kF)
          (with_reducible rename News _ _ _ _ => kN)
          refine forG s.heap ?_
          walk_at "STEPSW"
          (with_reducible rename Fr _ _ _ _ => kF)
          (with_reducible rename News _ _ _ _ => kN)
          refine loopList (vs := ((Value.str a ta :: vm) ++ [Value.str b tb])) (nn := 0) (fun i m nx => nx = [(D, listObj ((Value.str a ta :: vm) ++ [Value.str b tb]) 0)] ∧ ∃ (sp : Int) (ts te : Tok) (u' : Str → Option Value), m = loc [("got", .str got u), ("startpos", .int sp ts), ("endpos", .int (got.length : Int) te)] u' ∧ ellRun got (got.length : Int) sp (((a :: mid) ++ [b]).drop i) = ellW a b mid got) rfl (GoOk.name fun _ => rfl) (fr_loc kF [("got", .str got u), ("startpos", .int 0 _), ("endpos", .int (got.length : Int) _)] ⟨rfl, rfl, rfl, trivial⟩) kN (.inl (by simp)) (.inl fun _ _ _ h => by rw [h.1]; simp) ⟨rfl, _, _, _, _, rfl, hfin⟩ ?step ?done
          case step =>
            rintro i v m₁ nx h tk own hi hv ⟨rfl, sp, ts, te, u', rfl, hrun⟩ hoff F N
            clear kF kN
            obtain ⟨c, tc, rfl, hc⟩ := StrsAre.get' hzs hv
            have hcz : c.length < 1000 := hma c (hsub c (List.mem_of_getElem? hc))
            rw [drop_of_get hc, ellRun_cons] at hrun
            refine wpAny_assign_Name ?_
            walk_at "STEPSW"
            refine call_find4 ?_
            by_cases hneg : find4 got c sp (got.length : Int) < 0
            · walk_at "STEPSW"
              walk_at "DONE"
              rw [← hrun, if_pos hneg]
            · rw [if_neg hneg] at hrun
              walk_at "STEPSW"
              (with_reducible rename Fr _ _ _ _ => kF)
              (with_reducible rename News _ _ _ _ => kN)
              exact ⟨_, _, _, [(D, listObj ((Value.str a ta :: vm) ++ [Value.str b tb]) 0)], rfl, fr_loc kF [("got", .str got u), ("startpos", .int (find4 got c sp (got.length : Int) + (c.length : Int)) _), ("endpos", .int (got.length : Int) _)] ⟨rfl, rfl, rfl, trivial⟩, kN, hoff, rfl, _, _, _, _, rfl, hrun⟩
          case done =>
            rintro h tk m' nx F N ⟨rfl, sp, ts, te, u', rfl, hrun⟩
            clear kF kN
            walk_at "STEPSW"
            walk_at "DONE"
            rw [← hrun, List.drop_eq_nil_of_le (by rw [hzs.length]; exact Nat.le_refl _)]
            rfl
      · rw [show ((b.length : Int) != 0) = true by simp; omega]
        cases hew : Txt.endswith got b
        · walk_at "STEPSW"
          walk_at "DONE"
          rw [hR]
          unfold ellB
          rw [if_neg hb, if_pos hew]
        · have hR2 : ellB got 0 (a :: mid) b = (if 0 > (got.length : Int) - b.length then false else ellRun got ((got.length : Int) - b.length) 0 (a :: mid)) := by unfold ellB; rw [if_neg hb, if_neg (by rw [hew]; decide)]
          walk_at "STEPSW"
          refine SBL.len (by have := hma b (by simp); omega) ?_
          walk_at "STEPSW"
          (with_reducible rename Fr _ _ _ _ => kF)
          (with_reducible rename News _ _ _ _ => kN)
          refine delItem_head (k := (Value.str a ta :: vm).length) kF kN (fun _ h => nomatch h) (by decide) (seq_last (Value.str a ta :: vm) (Value.str b tb)) ?_ (by show _ ≤ 2 ^ 24; simp; omega)
          clear kF kN
          intro h8 F8 N8
          replace N8 : News s.heap L' h8 [(D, listObj (Value.str a ta :: vm) (0 + 1))] := Eq.mp (congrArg (fun z => News s.heap L' h8 [(D, { cls := .type "list", data := .seq z (0 + 1) })]) (erase_last (Value.str a ta :: vm) (Value.str b tb))) N8
          by_cases hgt : 0 > (got.length : Int) - b.length
          · rw [if_pos hgt] at hR2
            walk_at "STEPSW"
            walk_at "DONE"
            rw [hR, hR2]
          · rw [if_neg hgt] at hR2
            walk_at "STEPSW"
            have hfin : ellRun got ((got.length : Int) - b.length) 0 (a :: mid) = ellW a b mid got := (hR.trans hR2).symm
            have hzs := hps
            have hsub : ∀ c ∈ (a :: mid), c ∈ a :: (mid ++ [b]) := by intro c hc; simp at hc ⊢; grind
            (with_reducible rename Fr _ _ _ _ => kF)
            (with_reducible rename News _ _ _ _ => kN)
            refine forG s.heap ?_
            walk_at "STEPSW"
            (with_reducible rename Fr _ _ _ _ => kF)
            (with_reducible rename News _ _ _ _ => kN)
            refine loopList (vs := (Value.str a ta :: vm)) (nn := (0 + 1)) (fun i m nx => nx = [(D, listObj (Value.str a ta :: vm) (0 + 1))] ∧ ∃ (sp : Int) (ts te : Tok) (u' : Str → Option Value), m = loc [("got", .str got u), ("startpos", .int sp ts), ("endpos", .int ((got.length : Int) - b.length) te)] u' ∧ ellRun got ((got.length : Int) - b.length) sp ((a :: mid).drop i) = ellW a b mid got) rfl (GoOk.name fun _ => rfl) (fr_loc kF [("got", .str got u), ("startpos", .int 0 _), ("endpos", .int ((got.length : Int) - b.length) _)] ⟨rfl, rfl, rfl, trivial⟩) kN (.inl (by simp)) (.inl fun _ _ _ h => by rw [h.1]; simp) ⟨rfl, _, _, _, _, rfl, hfin⟩ ?step ?done
            case step =>
              rintro i v m₁ nx h tk own hi hv ⟨rfl, sp, ts, te, u', rfl, hrun⟩ hoff F N
              clear kF kN
              obtain ⟨c, tc, rfl, hc⟩ := StrsAre.get' hzs hv
              have hcz : c.length < 1000 := hma c (hsub c (List.mem_of_getElem? hc))
              rw [drop_of_get hc, ellRun_cons] at hrun
              refine wpAny_assign_Name ?_
              walk_at "STEPSW"
              refine call_find4 ?_
              by_cases hneg : find4 got c sp ((got.length : Int) - b.length) < 0
              · walk_at "STEPSW"
                walk_at "DONE"
                rw [← hrun, if_pos hneg]
              · rw [if_neg hneg] at hrun
                walk_at "STEPSW"
                (with_reducible rename Fr _ _ _ _ => kF)
                (with_reducible rename News _ _ _ _ => kN)
                exact ⟨_, _, _, [(D, listObj (Value.str a ta :: vm) (0 + 1))], rfl, fr_loc kF [("got", .str got u), ("startpos", .int (find4 got c sp ((got.length : Int) - b.length) + (c.length : Int)) _), ("endpos", .int ((got.length : Int) - b.length) _)] ⟨rfl, rfl, rfl, trivial⟩, kN, hoff, rfl, _, _, _, _, rfl, hrun⟩
            case done =>
              rintro h tk m' nx F N ⟨rfl, sp, ts, te, u', rfl, hrun⟩
              clear kF kN
              walk_at "STEPSW"
              walk_at "DONE"
              rw [← hrun, List.drop_eq_nil_of_le (by rw [hzs.length]; exact Nat.le_refl _)]
              rfl
    · rw [show ((a.length : Int) != 0) = true by simp; omega]
      cases hsw : Txt.startswith got a
      · walk_at "STEPSW"
        walk_at "DONE"
        unfold ellW
        rw [if_neg ha, if_pos hsw]
      · walk_at "STEPSW"
        refine SBL.len (by have := hma a (by simp); omega) ?_
        walk_at "STEPSW"
        (with_reducible rename Fr _ _ _ _ => kF)
        (with_reducible rename News _ _ _ _ => kN)
        refine delItem_head (k := 0) kF kN (fun _ h => nomatch h) (by decide) (seq_first _ _) ?_ (by show _ ≤ 2 ^ 24; simp; omega)
        clear kF kN
        intro h8 F8 N8
        replace N8 : News _ _ _ [(D, listObj (vm ++ [Value.str b tb]) 1)] := N8
        walk_at "STEPSW"
        (with_reducible rename Fr _ _ _ _ => kF)
        (with_reducible rename News _ _ _ _ => kN)
        have hR : ellW a b mid got = ellB got a.length mid b := by unfold ellW; rw [if_neg ha, if_neg (by rw [hsw]; decide)]
        have hps := hvm
        refine item_last (vi := vm) (v := Value.str b tb) ⟨_, (kN _ (.head _)).1, rfl, _, rfl⟩ ?_
        walk_at "STEPSW"
        refine SBL.truthy (by have := hma b (by simp); omega) ?_
        by_cases hb : b.length = 0
        · rw [show ((b.length : Int) != 0) = false by simp [hb]]
          have hR2 : ellB got (a.length : Int) mid b = (if (a.length : Int) > (got.length : Int) then false else ellRun got got.length (a.length : Int) (mid ++ [b])) := if_pos hb
          by_cases hgt : (a.length : Int) > (got.length : Int)
          · rw [if_pos hgt] at hR2
            walk_at "STEPSW"
            walk_at "DONE"
            rw [hR, hR2]
          · rw [if_neg hgt] at hR2
            walk_at "STEPSW"
            have hfin : ellRun got got.length (a.length : Int) (mid ++ [b]) = ellW a b mid got := (hR.trans hR2).symm
            have hzs : StrsAre (vm ++ [Value.str b tb]) (mid ++ [b]) := StrsAre.snoc' hps
            have hsub : ∀ c ∈ mid ++ [b], c ∈ a :: (mid ++ [b]) := by intro c hc; simp at hc ⊢; grind
            (with_reducible rename Fr _ _ _ _ => kF)
            (with_reducible rename News _ _ _ _ => kN)
            refine forG s.heap ?_
            walk_at "STEPSW"
            (with_reducible rename Fr _ _ _ _ => kF)
            (with_reducible rename News _ _ _ _ => kN)
            refine loopList (vs := (vm ++ [Value.str b tb])) (nn := 1) (fun i m nx => nx = [(D, listObj (vm ++ [Value.str b tb]) 1)] ∧ ∃ (sp : Int) (ts te : Tok) (u' : Str → Option Value), m = loc [("got", .str got u), ("startpos", .int sp ts), ("endpos", .int (got.length : Int) te)] u' ∧ ellRun got (got.length : Int) sp ((mid ++ [b]).drop i) = ellW a b mid got) rfl (GoOk.name fun _ => rfl) (fr_loc kF [("got", .str got u), ("startpos", .int (a.length : Int) _), ("endpos", .int (got.length : Int) _)] ⟨rfl, rfl, rfl, trivial⟩) kN (.inl (by simp)) (.inl fun _ _ _ h => by rw [h.1]; simp) ⟨rfl, _, _, _, _, rfl, hfin⟩ ?step ?done
            case step =>
              rintro i v m₁ nx h tk own hi hv ⟨rfl, sp, ts, te, u', rfl, hrun⟩ hoff F N
              clear kF kN
              obtain ⟨c, tc, rfl, hc⟩ := StrsAre.get' hzs hv
              have hcz : c.length < 1000 := hma c (hsub c (List.mem_of_getElem? hc))
              rw [drop_of_get hc, ellRun_cons] at hrun
              refine wpAny_assign_Name ?_
              walk_at "STEPSW"
              refine call_find4 ?_
              by_cases hneg : find4 got c sp (got.length : Int) < 0
              · walk_at "STEPSW"
                walk_at "DONE"
                rw [← hrun, if_pos hneg]
              · rw [if_neg hneg] at hrun
                walk_at "STEPSW"
                (with_reducible rename Fr _ _ _ _ => kF)
                (with_reducible rename News _ _ _ _ => kN)
                exact ⟨_, _, _, [(D, listObj (vm ++ [Value.str b tb]) 1)], rfl, fr_loc kF [("got", .str got u), ("startpos", .int (find4 got c sp (got.length : Int) + (c.length : Int)) _), ("endpos", .int (got.length : Int) _)] ⟨rfl, rfl, rfl, trivial⟩, kN, hoff, rfl, _, _, _, _, rfl, hrun⟩
            case done =>
              rintro h tk m' nx F N ⟨rfl, sp, ts, te, u', rfl, hrun⟩
              clear kF kN
              walk_at "STEPSW"
              walk_at "DONE"
              rw [← hrun, List.drop_eq_nil_of_le (by rw [hzs.length]; exact Nat.le_refl _)]
              rfl
        · rw [show ((b.length : Int) != 0) = true by simp; omega]
          cases hew : Txt.endswith got b
          · walk_at "STEPSW"
            walk_at "DONE"
            rw [hR]
            unfold ellB
            rw [if_neg hb, if_pos hew]
          · have hR2 : ellB got (a.length : Int) mid b = (if (a.length : Int) > (got.length : Int) - b.length then false else ellRun got ((got.length : Int) - b.length) (a.length : Int) mid) := by unfold ellB; rw [if_neg hb, if_neg (by rw [hew]; decide)]
            walk_at "STEPSW"
            refine SBL.len (by have := hma b (by simp); omega) ?_
            walk_at "STEPSW"
            (with_reducible rename Fr _ _ _ _ => kF)
            (with_reducible rename News _ _ _ _ => kN)
            refine delItem_head (k := vm.length) kF kN (fun _ h => nomatch h) (by decide) (seq_last vm (Value.str b tb)) ?_ (by show _ ≤ 2 ^ 24; simp; omega)
            clear kF kN
            intro h8 F8 N8
            replace N8 : News s.heap L' h8 [(D, listObj vm (1 + 1))] := Eq.mp (congrArg (fun z => News s.heap L' h8 [(D, { cls := .type "list", data := .seq z (1 + 1) })]) (erase_last vm (Value.str b tb))) N8
            by_cases hgt : (a.length : Int) > (got.length : Int) - b.length
            · rw [if_pos hgt] at hR2
              walk_at "STEPSW"
              walk_at "DONE"
              rw [hR, hR2]
            · rw [if_neg hgt] at hR2
              walk_at "STEPSW"
              have hfin : ellRun got ((got.length : Int) - b.length) (a.length : Int) mid = ellW a b mid got := (hR.trans hR2).symm
              have hzs := hps
              have hsub : ∀ c ∈ mid, c ∈ a :: (mid ++ [b]) := by intro c hc; simp at hc ⊢; grind
              (with_reducible rename Fr _ _ _ _ => kF)
              (with_reducible rename News _ _ _ _ => kN)
              refine forG s.heap ?_
              walk_at "STEPSW"
              (with_reducible rename Fr _ _ _ _ => kF)
              (with_reducible rename News _ _ _ _ => kN)
              refine loopList (vs := vm) (nn := (1 + 1)) (fun i m nx => nx = [(D, listObj vm (1 + 1))] ∧ ∃ (sp : Int) (ts te : Tok) (u' : Str → Option Value), m = loc [("got", .str got u), ("startpos", .int sp ts), ("endpos", .int ((got.length : Int) - b.length) te)] u' ∧ ellRun got ((got.length : Int) - b.length) sp (mid.drop i) = ellW a b mid got) rfl (GoOk.name fun _ => rfl) (fr_loc kF [("got", .str got u), ("startpos", .int (a.length : Int) _), ("endpos", .int ((got.length : Int) - b.length) _)] ⟨rfl, rfl, rfl, trivial⟩) kN (.inl (by simp)) (.inl fun _ _ _ h => by rw [h.1]; simp) ⟨rfl, _, _, _, _, rfl, hfin⟩ ?step ?done
              case step =>
                rintro i v m₁ nx h tk own hi hv ⟨rfl, sp, ts, te, u', rfl, hrun⟩ hoff F N
                clear kF kN
                obtain ⟨c, tc, rfl, hc⟩ := StrsAre.get' hzs hv
                have hcz : c.length < 1000 := hma c (hsub c (List.mem_of_getElem? hc))
                rw [drop_of_get hc, ellRun_cons] at hrun
                refine wpAny_assign_Name ?_
                walk_at "STEPSW"
                refine call_find4 ?_
                by_cases hneg : find4 got c sp ((got.length : Int) - b.length) < 0
                · walk_at "STEPSW"
                  walk_at "DONE"
                  rw [← hrun, if_pos hneg]
                · rw [if_neg hneg] at hrun
                  walk_at "STEPSW"
                  (with_reducible rename Fr _ _ _ _ => kF)
                  (with_reducible rename News _ _ _ _ => kN)
                  exact ⟨_, _, _, [(D, listObj vm (1 + 1))], rfl, fr_loc kF [("got", .str got u), ("startpos", .int (find4 got c sp ((got.length : Int) - b.length) + (c.length : Int)) _), ("endpos", .int ((got.length : Int) - b.length) _)] ⟨rfl, rfl, rfl, trivial⟩, kN, hoff, rfl, _, _, _, _, rfl, hrun⟩
              case done =>
                rintro h tk m' nx F N ⟨rfl, sp, ts, te, u', rfl, hrun⟩
                clear kF kN
                walk_at "STEPSW"
                walk_at "DONE"
                rw [← hrun, List.drop_eq_nil_of_le (by rw [hzs.length]; exact Nat.le_refl _)]
                rfl
end
section
open PySem.StrLaws PySem.Builtin.Str
abbrev st (l : List Nat) : Str := ⟨l.toArray⟩
theorem st_len (l : List Nat) : (st l).length = l.length := by show l.toArray.size = _; simp
theorem dots_list : DOTS.cps.toList = [46, 46, 46] := by decide
/-- texts glued by three dots -/
def glueD : List (List Nat) → List Nat
  | [] => []
  | [p] => p
  | p :: q :: r => p ++ 46 :: 46 :: 46 :: glueD (q :: r)
theorem at_dots {x : Str} {k : Nat} : At x DOTS x.length k ↔ k + 3 ≤ x.length ∧ (x.cps.toList.drop k).take 3 = [46, 46, 46] := by
  unfold At
  rw [subAt_eq, dots_list, show DOTS.length = 3 from rfl, beq_iff_eq]
theorem len_list (x : Str) : x.cps.toList.length = x.length := by simp [Str.length]
theorem sub_st {x : Str} {a c : Nat} {l : List Nat} (h : (x.cps.toList.drop a).take (c - a) = l) : strSub x a c = st l := mk_of_toList (by rw [strSub_toList]; exact h)
theorem parts_glue (x : Str) : ∀ (ps : List (List Nat)) (a : Nat) (cuts : List Nat) (f : Nat), (∀ p ∈ ps, 46 ∉ p) → ps ≠ [] → x.cps.toList.drop a = glueD ps → ChainG x DOTS x.length a cuts f → (∀ k, f ≤ k → ¬ At x DOTS x.length k) → partsFrom x 3 a cuts = ps.map st
  | [], _, _, _, _, h, _, _, _ => absurd rfl h
  | [p], a, cuts, f, hp, _, hd, hc, _ => by
    have hd' : x.cps.toList.drop a = p := hd
    cases cuts with
    | nil =>
      show [strSub x a x.length] = [st p]
      rw [sub_st (l := p) (by rw [hd', List.take_of_length_le]; have := congrArg List.length hd'; rw [List.length_drop, len_list] at this; omega)]
    | cons c r =>
      have h1 := at_dots.mp hc.2.1
      have e : x.cps.toList.drop c = p.drop (c - a) := by rw [← hd', List.drop_drop, Nat.add_sub_cancel' hc.1]
      rw [e] at h1
      have h46 : 46 ∈ (p.drop (c - a)).take 3 := by rw [h1.2]; simp
      exact absurd (List.mem_of_mem_drop (List.mem_of_mem_take h46)) (hp p (by simp))
  | p :: q :: r, a, cuts, f, hp, _, hd, hc, hf => by
    have hd' : x.cps.toList.drop a = p ++ 46 :: 46 :: 46 :: glueD (q :: r) := hd
    have d0 : x.cps.toList.drop (a + p.length) = 46 :: 46 :: 46 :: glueD (q :: r) := by rw [← List.drop_drop, hd']; simp
    have d3 : x.cps.toList.drop (a + p.length + 3) = glueD (q :: r) := by rw [← List.drop_drop, d0]; rfl
    have a0 : At x DOTS x.length (a + p.length) := at_dots.mpr ⟨by have := congrArg List.length d0; rw [List.length_drop, len_list] at this; simp at this; omega, by rw [d0]; rfl⟩
    have no : ∀ k, a ≤ k → k < a + p.length → ¬ At x DOTS x.length k := by
      intro k h1 h2 hA
      have hA' := (at_dots.mp hA).2
      rw [show k = a + (k - a) by omega, ← List.drop_drop, hd', List.drop_append_of_le_length (by omega)] at hA'
      cases e : p.drop (k - a) with
      | nil => have := congrArg List.length e; rw [List.length_drop] at this; simp at this; omega
      | cons b t =>
        rw [e] at hA'
        have hb : b = 46 := by simpa using congrArg List.head? hA'
        exact hp p (by simp) (hb ▸ List.mem_of_mem_drop (e ▸ List.mem_cons_self))
    cases cuts with
    | nil => exact absurd a0 (hf _ (by have e : f = a := hc; omega))
    | cons c t =>
      obtain ⟨h1, h2, h3, h4⟩ := hc
      have ec : c = a + p.length := by
        rcases Nat.lt_trichotomy c (a + p.length) with h | h | h
        · exact absurd h2 (no c h1 h)
        · exact h
        · exact absurd a0 (h3 _ (by omega) h)
      subst ec
      show strSub x a (a + p.length) :: partsFrom x 3 (a + p.length + 3) t = st p :: (q :: r).map st
      rw [sub_st (l := p) (by rw [hd', Nat.add_sub_cancel_left]; simp), parts_glue x (q :: r) _ t f (fun p' h => hp p' (List.mem_cons_of_mem _ h)) (by simp) d3 h4 hf]
theorem kind_dots (x : Str) : decide (Builtin.Str.strKind x < Builtin.Str.strKind DOTS) = false := by
  rw [decide_eq_false_iff_not, show Builtin.Str.strKind DOTS = 1 by decide +kernel]
  unfold Builtin.Str.strKind
  split
  · omega
  · split <;> omega
theorem split_glue {p q : List Nat} {r : List (List Nat)} (h : ∀ z ∈ p :: q :: r, 46 ∉ z) : (occurrences (st (glueD (p :: q :: r))) DOTS 0 (st (glueD (p :: q :: r))).length 1).isEmpty = false ∧ Txt.split (st (glueD (p :: q :: r))) DOTS = (p :: q :: r).map st := by
  generalize hx : st (glueD (p :: q :: r)) = x
  have hl : x.cps.toList = glueD (p :: q :: r) := by rw [← hx]
  have a0 : At x DOTS x.length p.length := at_dots.mpr (by
    have d0 : x.cps.toList.drop p.length = 46 :: 46 :: 46 :: glueD (q :: r) := by rw [hl]; simp [glueD]
    refine ⟨?_, by rw [d0]; rfl⟩
    have := congrArg List.length d0; rw [List.length_drop, len_list] at this; simp at this; omega)
  have h1 : (!(occurrences x DOTS 0 x.length 1).isEmpty) = true := (found_iff x DOTS).mpr ⟨_, a0⟩
  refine ⟨by simpa using h1, ?_⟩
  obtain ⟨f, hc, hf⟩ := occ_tight x DOTS (by decide)
  unfold Txt.split
  have hlen : decide (x.length < DOTS.length) = false := decide_eq_false (by have := a0.1; omega)
  rw [hlen, kind_dots, if_neg (by decide)]
  cases e : (occurrences x DOTS 0 x.length (x.length + 1)).isEmpty with
  | true =>
    rw [List.isEmpty_iff.mp e] at hc
    exact absurd a0 (hf _ (by have e : f = 0 := hc; omega))
  | false =>
    rw [if_neg (by decide), partsBetween_eq]
    exact parts_glue x _ 0 _ f h (by simp) (by rw [hl]; rfl) hc hf
theorem want_eq {x : Str} {l : List Nat} (h : x.cps.toList = l) : x = st l := mk_of_toList h
/-- a piece is found within bounds, or not -/
theorem find4_spec (x y : Str) (i j : Nat) (hj : j ≤ x.length) :
    (find4 x y i j = -1 ∧ ∀ k, i ≤ k → ¬ At x y j k) ∨ ∃ k : Nat, find4 x y i j = k ∧ i ≤ k ∧ At x y j k ∧ ∀ k', i ≤ k' → k' < k → ¬ At x y j k' := by
  have e1 : fromIndex x.length (i : Int) = i := by unfold fromIndex; split <;> omega
  have e2 : min (fromIndex x.length (j : Int)) x.length = j := by unfold fromIndex; split <;> omega
  unfold find4
  rw [e1, e2, occ_eq]
  rcases occ_first x y j 1 (Nat.le_refl _) (List.range' i (j + 1 - i)) i (fun k hk => by have := List.mem_range'_1.mp hk; omega) with ⟨h0, hn⟩ | ⟨pre, a, post, e, h0, ha, hn⟩
  · left
    rw [h0]
    refine ⟨rfl, fun k hk hA => hn k (by have := hA.1; rw [List.mem_range'_1]; omega) hA⟩
  · right
    have hs := range'_split_from e
    refine ⟨a, ?_, hs.1, ha, fun k hk0 hk => hn k (hs.2 k hk0 hk)⟩
    generalize (forIn (List.range' i (j + 1 - i)) ((#[] : Array Nat), i) (occBody x y j 1)).run.fst = arr at h0
    have h1 : arr.toList[0]? = some a := by simpa using h0
    cases hL : arr.toList with
    | nil => rw [hL] at h1; cases h1
    | cons b t => rw [hL] at h1; simp at h1; rw [h1]
end
section
open PySem.StrLaws PySem.Builtin.Str
/-- is a word a front of another, does it stand in it -/
def pre : List Nat → List Nat → Bool
  | [], _ => true
  | _ :: _, [] => false
  | a :: x, b :: y => Nat.beq a b && pre x y
def inf (o : List Nat) : List Nat → Bool
  | [] => pre o []
  | b :: n => pre o (b :: n) || inf o n
theorem pre_iff : ∀ (o l : List Nat), pre o l = true ↔ l.take o.length = o
  | [], _ => by simp [pre]
  | _ :: _, [] => by simp [pre]
  | a :: x, b :: y => by
    have e : Nat.beq a b = true ↔ b = a := ⟨fun h => (Nat.eq_of_beq_eq_true h).symm, fun h => by subst h; exact Nat.beq_refl _⟩
    simp only [pre, Bool.and_eq_true, List.length_cons, List.take_succ_cons, List.cons.injEq, pre_iff x y, e]
theorem inf_iff (o : List Nat) : ∀ (n : List Nat), inf o n = true ↔ ∃ k, k + o.length ≤ n.length ∧ (n.drop k).take o.length = o
  | [] => by
    rw [inf, pre_iff]
    constructor
    · intro h; refine ⟨0, ?_, h⟩; have := congrArg List.length h; simp at this; simp [← this]
    · rintro ⟨k, _, h⟩; simpa using h
  | b :: n => by
    rw [inf, Bool.or_eq_true, pre_iff, inf_iff o n]
    constructor
    · rintro (h | ⟨k, h1, h2⟩)
      · refine ⟨0, ?_, h⟩
        have := congrArg List.length h
        rw [List.length_take] at this; omega
      · exact ⟨k + 1, by rw [List.length_cons]; omega, by simpa using h2⟩
    · rintro ⟨k, h1, h2⟩
      cases k with
      | zero => exact .inl h2
      | succ k => exact .inr ⟨k, by rw [List.length_cons] at h1; omega, by simpa using h2⟩
theorem at_st {o n : List Nat} {j k : Nat} : At (st n) (st o) j k ↔ k + o.length ≤ j ∧ (n.drop k).take o.length = o := by
  unfold At
  rw [subAt_eq, st_len]
  show _ ∧ (List.take o.length (List.drop k n.toArray.toList) == o.toArray.toList) = true ↔ _
  rw [beq_iff_eq]
theorem find_nil (n : List Nat) (i : Nat) (h : i ≤ n.length) : find4 (st n) (st []) i (n.length : Nat) = i := by
  rcases find4_spec (st n) (st []) i n.length (by rw [st_len]; exact Nat.le_refl _) with ⟨_, h2⟩ | ⟨k, h1, h2, _, h4⟩
  · exact absurd (at_st.mpr ⟨h, by simp⟩) (h2 i (Nat.le_refl _))
  · rw [h1]
    rcases Nat.lt_or_ge i k with hk | hk
    · exact absurd (at_st.mpr ⟨h, by simp⟩) (h4 i (Nat.le_refl _) hk)
    · rw [Nat.le_antisymm hk h2]
theorem run_nil (n : List Nat) (i : Nat) (h : i ≤ n.length) (r : List Str) : ellRun (st n) (n.length : Nat) i (st [] :: r) = ellRun (st n) (n.length : Nat) i r := by
  rw [ellRun_cons, find_nil n i h, if_neg (by omega)]
  rw [show ((st []).length : Int) = 0 from rfl, Int.add_zero]
/-- three dots on both sides -/
theorem ell_inf (o n : List Nat) : ellW (st []) (st []) [st o] (st n) = inf o n := by
  have e : ellW (st []) (st []) [st o] (st n) = ellRun (st n) (n.length : Nat) ((0 : Nat) : Int) [st [], st o, st []] := by
    unfold ellW ellB
    rw [if_pos (by rfl), if_pos (by rfl), if_neg (by rw [st_len]; omega), st_len]
    rfl
  rw [e, run_nil n 0 (Nat.zero_le _), ellRun_cons]
  rcases find4_spec (st n) (st o) 0 n.length (by rw [st_len]; exact Nat.le_refl _) with ⟨h1, h2⟩ | ⟨k, h1, _, h3, _⟩
  · rw [h1, if_pos (by decide)]
    symm
    rw [Bool.eq_false_iff]
    intro h
    obtain ⟨k, h3, h4⟩ := (inf_iff o n).mp h
    exact h2 k (Nat.zero_le _) (at_st.mpr ⟨h3, h4⟩)
  · have h3' := at_st.mp h3
    rw [h1, if_neg (by omega), st_len, show ((k : Int) + (o.length : Nat)) = ((k + o.length : Nat) : Int) by omega, run_nil n _ h3'.1]
    symm
    exact (inf_iff o n).mpr ⟨k, h3'⟩
def suf (s n : List Nat) : Bool := decide (s.length ≤ n.length) && pre s (n.drop (n.length - s.length))
theorem ends_st (s n : List Nat) : Txt.endswith (st n) (st s) = suf s n := by
  unfold Txt.endswith suf
  rw [st_len, st_len, Nat.zero_add]
  congr 1
  rw [Bool.eq_iff_iff, pre_iff, subAt_eq, st_len, beq_iff_eq]
theorem ell_suf (s n : List Nat) : ellW (st []) (st s) [] (st n) = suf s n := by
  unfold ellW ellB
  rw [if_pos (by rfl), st_len, ends_st]
  by_cases hs : s.length = 0
  · have : s = [] := List.length_eq_zero_iff.mp hs
    subst this
    rw [if_pos hs, if_neg (by rw [st_len]; omega), st_len]
    rw [show ([st []] ++ [st []] : List Str) = [st [], st []] from rfl, show (0 : Int) = ((0 : Nat) : Int) from rfl, run_nil n 0 (Nat.zero_le _), run_nil n 0 (Nat.zero_le _)]
    simp [suf, pre, ellRun]
  · rw [if_neg hs]
    cases h : suf s n with
    | false => rw [if_pos rfl]
    | true =>
      have hl : s.length ≤ n.length := by
        unfold suf at h
        rw [Bool.and_eq_true, decide_eq_true_eq] at h; exact h.1
      rw [if_neg (by decide), st_len, if_neg (by omega), show ((n.length : Int) - (s.length : Nat)) = ((n.length - s.length : Nat) : Int) by omega, ellRun_cons]
      rcases find4_spec (st n) (st []) 0 (n.length - s.length) (by rw [st_len]; omega) with ⟨_, h2⟩ | ⟨k, h1, _⟩
      · exact absurd (at_st.mpr ⟨Nat.zero_le _, by simp⟩) (h2 0 (Nat.le_refl _))
      · rw [show (0 : Int) = ((0 : Nat) : Int) from rfl, h1, if_neg (by omega)]; rfl
theorem starts_st (s n : List Nat) : Txt.startswith (st n) (st s) = (decide (s.length ≤ n.length) && pre s n) := by
  unfold Txt.startswith
  rw [st_len, st_len, Nat.zero_add]
  congr 1
  rw [Bool.eq_iff_iff, pre_iff, subAt_eq, st_len, beq_iff_eq]; rfl
/-- a word's first and last letter, dots between them -/
theorem ell_ends {a b : Nat} {n : List Nat} (mid : List Str) (h1 : pre [a] n = true) (h2 : suf [b] n = true) : ellW (st [a]) (st [b]) mid (st n) = if n.length < 2 then false else ellRun (st n) ((n.length - 1 : Nat) : Int) ((1 : Nat) : Int) mid := by
  have hl : 1 ≤ n.length := by
    have := congrArg List.length ((pre_iff [a] n).mp h1)
    rw [List.length_take] at this; simp at this; omega
  unfold ellW ellB
  rw [if_neg (by rw [st_len]; simp), starts_st, h1, show (decide ([a].length ≤ n.length) && true) = true by simpa using hl, if_neg (by decide)]
  rw [if_neg (by rw [st_len]; simp), ends_st, h2, if_neg (by decide), st_len, st_len, st_len]
  by_cases h : n.length < 2
  · rw [if_pos h, if_pos (by simp; omega)]
  · rw [if_neg h, if_neg (by simp; omega), show ((n.length : Nat) : Int) - (([b] : List Nat).length : Nat) = ((n.length - 1 : Nat) : Int) by simp; omega]; rfl
theorem ell_two {a b : Nat} {n : List Nat} (h1 : pre [a] n = true) (h2 : suf [b] n = true) : ellW (st [a]) (st [b]) [] (st n) = decide (2 ≤ n.length) := by
  rw [ell_ends [] h1 h2]
  by_cases h : n.length < 2
  · rw [if_pos h]; symm; rw [decide_eq_false_iff_not]; omega
  · rw [if_neg h]; symm; show decide _ = true; rw [decide_eq_true_eq]; omega
theorem ell_mid {a b : Nat} {n o : List Nat} (h1 : pre [a] n = true) (h2 : suf [b] n = true) (hl : 2 ≤ n.length) : ellW (st [a]) (st [b]) [st o] (st n) = inf o (n.drop 1).dropLast := by
  rw [ell_ends [st o] h1 h2, if_neg (by omega), ellRun_cons]
  have tk : ∀ k, 1 ≤ k → k + o.length ≤ n.length - 1 → (n.drop k).take o.length = ((n.drop 1).dropLast.drop (k - 1)).take o.length := by
    intro k h3 h4
    rw [List.dropLast_eq_take, List.length_drop, List.drop_take, List.drop_drop, List.take_take, show 1 + (k - 1) = k by omega, Nat.min_eq_left (by omega)]
  have hz : (n.drop 1).dropLast.length = n.length - 1 - 1 := by rw [List.length_dropLast, List.length_drop]
  rcases find4_spec (st n) (st o) 1 (n.length - 1) (by rw [st_len]; omega) with ⟨h3, h4⟩ | ⟨k, h3, h4, h5, _⟩
  · rw [h3, if_pos (by decide)]
    symm
    rw [Bool.eq_false_iff]
    intro h
    obtain ⟨k, h5, h6⟩ := (inf_iff _ _).mp h
    rw [hz] at h5
    refine h4 (k + 1) (by omega) (at_st.mpr ⟨by omega, ?_⟩)
    rw [tk (k + 1) (by omega) (by omega)]; exact h6
  · have h5' := at_st.mp h5
    rw [h3, if_neg (by omega)]
    symm
    refine (inf_iff _ _).mpr ⟨k - 1, by rw [hz]; omega, ?_⟩
    rw [← tk k h4 h5'.1]; exact h5'.2
end
def upL (l : List Nat) : List Nat := l.map up1
/-- a word of the three letters -/
def WordOk (l : List Nat) : Prop := (∀ c ∈ l, c = 66 ∨ c = 67 ∨ c = 68) ∧ l.length ≤ 5
def wordsN : Nat → List (List Nat)
  | 0 => [[]]
  | k + 1 => wordsN k ++ ((wordsN k).filter (·.length == k)).flatMap fun l => [66 :: l, 67 :: l, 68 :: l]
abbrev allWords : List (List Nat) := wordsN 5
theorem mem_words : ∀ (k : Nat) (l : List Nat), (∀ c ∈ l, c = 66 ∨ c = 67 ∨ c = 68) → l.length ≤ k → l ∈ wordsN k
  | 0, l, _, h => by
    have : l = [] := List.length_eq_zero_iff.mp (Nat.le_zero.mp h)
    subst this; simp [wordsN]
  | k + 1, l, hc, h => by
    unfold wordsN
    rw [List.mem_append]
    by_cases hk : l.length ≤ k
    · exact .inl (mem_words k l hc hk)
    · right
      cases l with
      | nil => simp at hk
      | cons c r =>
        rw [List.mem_flatMap]
        have hr : r.length = k := by simp at h hk; omega
        refine ⟨r, List.mem_filter.mpr ⟨mem_words k r (fun d hd => hc d (List.mem_cons_of_mem _ hd)) (by omega), by simp [hr]⟩, ?_⟩
        rcases hc c List.mem_cons_self with rfl | rfl | rfl <;> simp
theorem WordOk.mem {l : List Nat} (h : WordOk l) : l ∈ allWords := mem_words 5 l h.1 h.2
theorem WordOk.nodot {l : List Nat} (h : WordOk l) : 46 ∉ l := fun hm => by have := h.1 46 hm; omega
theorem dots_around {o : List Nat} (h : WordOk o) : (Builtin.Str.occurrences (DOTS ++ st o ++ DOTS) DOTS 0 (DOTS ++ st o ++ DOTS).length 1).isEmpty = false ∧ Txt.split (DOTS ++ st o ++ DOTS) DOTS = st [] :: ([st o] ++ [st []]) := by
  have e : DOTS ++ st o ++ DOTS = st (glueD [[], o, []]) := want_eq (by rw [Str.cps_append, Str.cps_append, Array.toList_append, Array.toList_append, dots_list]; simp [glueD])
  rw [e]
  exact split_glue (p := []) (q := o) (r := [[]]) fun z hz => by
    simp only [List.mem_cons, List.not_mem_nil, or_false] at hz
    rcases hz with rfl | rfl | rfl
    · simp
    · exact h.nodot
    · simp
/-- a front, dots ahead -/
theorem dots_front {o : List Nat} (h : WordOk o) : (Builtin.Str.occurrences (DOTS ++ st o) DOTS 0 (DOTS ++ st o).length 1).isEmpty = false ∧ Txt.split (DOTS ++ st o) DOTS = st [] :: ([] ++ [st o]) := by
  have e : DOTS ++ st o = st (glueD [[], o]) := want_eq (by rw [Str.cps_append, Array.toList_append, dots_list]; simp [glueD])
  rw [e]
  exact split_glue (p := []) (q := o) (r := []) fun z hz => by
    simp only [List.mem_cons, List.not_mem_nil, or_false] at hz
    rcases hz with rfl | rfl
    · simp
    · exact h.nodot
theorem dots_two {a b : List Nat} (ha : WordOk a) (hb : WordOk b) : (Builtin.Str.occurrences (st a ++ DOTS ++ st b) DOTS 0 (st a ++ DOTS ++ st b).length 1).isEmpty = false ∧ Txt.split (st a ++ DOTS ++ st b) DOTS = st a :: ([] ++ [st b]) := by
  have e : st a ++ DOTS ++ st b = st (glueD [a, b]) := want_eq (by rw [Str.cps_append, Str.cps_append, Array.toList_append, Array.toList_append, dots_list]; simp [glueD])
  rw [e]
  exact split_glue (p := a) (q := b) (r := []) fun z hz => by
    simp only [List.mem_cons, List.not_mem_nil, or_false] at hz
    rcases hz with rfl | rfl
    · exact ha.nodot
    · exact hb.nodot
theorem dots_mid {a o b : List Nat} (ha : WordOk a) (ho : WordOk o) (hb : WordOk b) : (Builtin.Str.occurrences (st a ++ DOTS ++ st o ++ DOTS ++ st b) DOTS 0 (st a ++ DOTS ++ st o ++ DOTS ++ st b).length 1).isEmpty = false ∧ Txt.split (st a ++ DOTS ++ st o ++ DOTS ++ st b) DOTS = st a :: ([st o] ++ [st b]) := by
  have e : st a ++ DOTS ++ st o ++ DOTS ++ st b = st (glueD [a, o, b]) := want_eq (by simp only [Str.cps_append, Array.toList_append, dots_list]; simp [glueD])
  rw [e]
  exact split_glue (p := a) (q := o) (r := [b]) fun z hz => by
    simp only [List.mem_cons, List.not_mem_nil, or_false] at hz
    rcases hz with rfl | rfl | rfl
    · exact ha.nodot
    · exact ho.nodot
    · exact hb.nodot
/-- a row's name and weight, read -/
def uRows (rows : List (List Nat × List Nat)) : List (List Nat × Int) := rows.map fun r => (upL r.1, ((rd r.2 0 : Nat) : Int))
def addIf (n : List Nat) (t : Int) (u : List Nat × Int) : Int := if u.1.length < n.length ∧ inf u.1 n = true then t + u.2 else t
def totOf (us : List (List Nat × Int)) (n : List Nat) (wt : Int) : Int := us.foldl (addIf n) wt
def sumsOf (us : List (List Nat × Int)) (k : Nat) : List (Str × Int) := (us.take k).foldl (fun ps u => kdpPut ps (st u.1) (totOf us u.1 u.2)) []
theorem sumsOf_succ {us : List (List Nat × Int)} {k : Nat} {n : List Nat} {x : Int} (h : us[k]? = some (n, x)) : sumsOf us (k + 1) = kdpPut (sumsOf us k) (st n) (totOf us n x) := by
  unfold sumsOf
  rw [List.take_add_one, h, List.foldl_append]; rfl
theorem sumsOf_len (us : List (List Nat × Int)) : ∀ k, (sumsOf us k).length ≤ k
  | 0 => Nat.le_refl _
  | k + 1 => by
    cases h : us[k]? with
    | none =>
      have e : sumsOf us (k + 1) = sumsOf us k := by unfold sumsOf; rw [List.take_add_one, h]; simp
      rw [e]; exact Nat.le_succ_of_le (sumsOf_len us k)
    | some u =>
      obtain ⟨n, x⟩ := u
      rw [sumsOf_succ h]
      exact Nat.le_trans (kdpPut_len _ _ _) (Nat.succ_le_succ (sumsOf_len us k))
theorem up1_ok : ∀ c : Fin 123, 65 ≤ c.val → 65 ≤ up1 c.val ∧ up1 c.val < 123 := by decide +kernel
theorem NameOk.up {l : List Nat} (h : NameOk l) : NameOk (upL l) := by
  refine ⟨fun c hc => ?_, by simp [upL, h.2]⟩
  obtain ⟨d, hd, rfl⟩ := List.mem_map.mp hc
  have z := h.1 d hd
  exact up1_ok ⟨d, z.2⟩ z.1
section
variable {prog : Program} {w : World} {A : Around} {E Q : Value → Shared → Prop} {s : Shared} {l : List Nat} {t : Tok}
theorem upperL (h : NameOk l) (hq : ∀ t', Q (sv (upL l) t') { s with toks := s.toks + 1 }) : wpAny (model prog w) A (call (.builtin "str.upper") [.str ⟨l.toArray⟩ t]) Q E s := by
  have e : Txt.upper ⟨l.toArray⟩ = ⟨(upL l).toArray⟩ := by
    rw [upper_ascii (fun c hc => by have := h.1 c (by simpa using hc); omega)]
    simp [upL]
  refine SC.upper ?_ ?_
  · rw [e]; exact short24 (by show (upL l).toArray.size ≤ _; have := h.up.2; simp; omega)
  · rw [e]; exact hq _
end
local macro_rules | `(tactic| walk_at "call builtin:str.upper") => `(tactic| (k_here; (with_reducible show wpAny _ _ (call (Value.builtin _) [Value.str (PySem.Str.mk (List.toArray _)) _]) _ _ _); (refine upperL (by assumption) ?_; intro _; (try dsimp only))))
local macro_rules | `(tactic| walk_at "NOWALK") => `(tactic| first | (with_reducible show wpAny _ _ (setItem _ _ _) _ _ _) | fail)
def UIn (els : List (Addr × Obj)) (ys : List Value) (us : List (List Nat × Int)) : Prop :=
  ∀ (j : Nat) (y : Value), ys[j]? = some y → ∃ a k t1 t2 x z, y = .ref a ∧ us[j]? = some (x, z) ∧ (a, tupObj [sv x t1, .int z t2] k) ∈ els
theorem frNew {h₀ h h' : Heap} {L a : Addr} {m : Str → Option Value} {o : Obj} (F : Fr h₀ L h m) (e : h'.get? a = some o) (n : h.get? a = none) : h'.get? a = some o ∧ a ≠ L ∧ h₀.get? a = none := by
  obtain ⟨oL, _, _, hoL, _⟩ := id F.ns
  refine ⟨e, fun q => (by rw [q, hoL] at n; cases n), ?_⟩
  cases q : h₀.get? a with
  | none => rfl
  | some o => rw [F.keep a o q] at n; cases n
theorem uRows_get {rows : List (List Nat × List Nat)} {i : Nat} {x y : List Nat} (h : rows[i]? = some (x, y)) : (uRows rows)[i]? = some (upL x, ((rd y 0 : Nat) : Int)) := by
  unfold uRows; rw [List.getElem?_map, h]; rfl
theorem uRows_row {rows : List (List Nat × List Nat)} {i : Nat} {x : List Nat} {z : Int} (h : (uRows rows)[i]? = some (x, z)) : ∃ r ∈ rows, x = upL r.1 := by
  unfold uRows at h
  rw [List.getElem?_map] at h
  cases q : rows[i]? with
  | none => rw [q] at h; cases h
  | some r =>
    rw [q] at h
    exact ⟨r, List.mem_of_getElem? q, (congrArg Prod.fst (Option.some.inj h)).symm⟩
theorem fold_take {us : List (List Nat × Int)} {j : Nat} {u : List Nat × Int} {n : List Nat} {t : Int} (h : us[j]? = some u) : (us.take (j + 1)).foldl (addIf n) t = addIf n ((us.take j).foldl (addIf n) t) u := by
  rw [List.take_add_one, h, List.foldl_append]; rfl
section
variable {w : World} {p : Program} {loose : List Str} {mg mb : Str → Option Value} {dp un : Nat} {fr : Option (List Env)} {gd : Option (List Code)} {s : Shared} {Q E : Value → Shared → Prop}
theorem law_sums_spec {T dx l : Addr} {hs : Int} {thk : Tok} {vs : List Value} {nn : Nat} {rows : List (List Nat × List Nat)} (H : Here w p loose mg mb s.heap) (hd : dp + 60 < 1000)
    (hT : s.heap.get? T = some (instObj 234 dx)) (hdx : s.heap.get? dx = some (hdict hs thk l)) (hl : s.heap.get? l = some (listObj vs nn)) (hr : RowsAt s.heap vs rows) (hlen : vs.length ≤ 1000) (hrc : ∀ r ∈ rows, NameOk r.1 ∧ WordOk (upL r.1) ∧ ValOk r.2)
    (ret : Ret s Q (fun v h => ∃ d, v = .ref d ∧ s.heap.get? d = none ∧ StrTab PW w h d (kdpD (sumsOf (uRows rows) rows.length)))) :
    wpAny (model PW w) (au dp un fr gd) (call (.ref 262) [.ref T]) Q E s := by
  have hrl : recursionLimit = 1000 := rfl
  k_dflt (refine' enterP (binds := [((PySem.Str.ofString "table"), .ref T)]) (mm := fun y_ => List.lookup y_ [((PySem.Str.ofString "table"), .ref T)]) (Here.X (by assumption)) (Here.T (by assumption)) ?k6 ?k7 ?k8 ?k9 ?kB ?hm ?_ ?c2 ?c3 ?c4 ?c5; (case k6 => k_is); (case k7 => k_is); (case k8 => (dsimp only; omega)); (case k9 => exact BindsTo.of_eq rfl); (case kB => exact locs rfl); (case hm => exact rfl); (case c5 => decide); (case c2 => exact rfl); (case c3 => exact rfl); (case c4 => exact rfl))
  intro L' h' F' N' X' T'
  k_fold
  walk_at "STEPSW"
  refine compA s.heap rfl rfl (by decide) rfl (by decide) rfl rfl ?_
  walk_at "STEPSW"
  (with_reducible rename Fr _ _ _ _ => kF)
  (with_reducible rename News _ _ _ _ => kN)
  refine' items_spec (T := T) (dx := dx) (l := l) (hs := hs) (thk := thk) (vs := vs) (nn := nn) ?h1 ?h2 ?h3 ?h4 ?h5 hlen ?_
  case h1 => walk_at "HERE"
  case h2 => walk_at "ROOM"
  case h3 => exact kF.keep _ _ hT
  case h4 => exact kF.keep _ _ hdx
  case h5 => exact kF.keep _ _ hl
  intro v9 h9 tk9 ext9 pv9
  obtain ⟨a, n, rfl, ha, hna⟩ := pv9
  have z9 := frNew kF ha hna
  replace kF := frExt kF ext9
  replace kN := newsCons z9 (newsExt kN ext9)
  clear z9
  dsimp only
  refine compList (vs := vs) (nn := n) (fun i y oo => ∃ (b : Addr) (k : Nat) (t1 t2 : Tok) (x : List Nat) (z : Int), y = .ref b ∧ (uRows rows)[i]? = some (x, z) ∧ oo = some (tupObj [sv x t1, .int z t2] k)) rfl (GoOk.list (fun _ _ h => h.1) fun i v h => ?go) kF kN (.inl (by simp)) (Nat.le_trans hlen (by decide)) ?elt ?done
  case go => obtain ⟨a, _, _, _, _, _, e, _⟩ := hr.get (i := i) (v := v) (by simpa using h); exact ⟨a, e⟩
  case elt =>
    intro g i v C m₃ h tk own hi hv hLC g0 gn F N
    clear kF kN ext9
    obtain ⟨b, k, t1, t2, x, y, rfl, hrow, hb⟩ := hr.get hv
    have hx := hrc _ (List.mem_of_getElem? hrow)
    have hx1 : NameOk x := hx.1
    have X9 := H.X.keeps g0
    have T9 := H.T.keeps g0
    have H9 : Here w p loose mg mb g := ⟨X9, T9⟩
    refine assign_Tuple_tuple rfl ⟨_, F.keep _ _ (g0 _ _ hb), rfl, _, rfl⟩ rfl rfl ?_
    intro h5 x5
    have e5 : Ext h h5 := fun b o e => x5 b o (Nat.ne_of_lt (Heap.lt_size e)) e
    replace F := frExt F e5
    replace N := newsExt N e5
    walk_at "STEPSW"
    refine' law_read_spec ?h1 ?h2 hx.2.2.1 hx.2.2.2 ?_
    case h1 => walk_at "HERE"
    case h2 => walk_at "ROOM"
    intro v9 h9 tk9 ext9 pv9
    (with_reducible rename Fr _ _ _ _ => kF)
    (with_reducible rename News _ _ _ _ => kN)
    replace kF := frExt kF ext9
    replace kN := newsExt kN ext9
    (try dsimp only at kF kN)
    obtain ⟨t7, rfl⟩ := pv9
    walk_at "STEPSW"
    (with_reducible rename Fr _ _ _ _ => kF)
    (with_reducible rename News _ _ _ _ => kN)
    (with_reducible rename ∀ p ∈ own, @LT.lt Nat _ p.1 _ => lD)
    have nD := kN _ (.head _)
    exact ⟨_, _, _, some _, rfl, kF, fun q hq => kN q (.tail _ hq), ⟨_, 0, _, _, _, _, rfl, uRows_get hrow, rfl⟩, _, rfl, nD.1, fun q => q.elim nD.2.1 fun q => q.elim (fun q => q nD.2.2) fun ⟨p, hp, e⟩ => Nat.lt_irrefl _ (e ▸ lD p hp)⟩
  case done =>
    intro D h' tk ys els F N he hD hl' hy
    clear kF kN ext9
    have hys : UIn els ys (uRows rows) := fun j y hj => by
      obtain ⟨_, ⟨b, k, t1, t2, x, z, rfl, h1, rfl⟩, b', e, hm⟩ := hy j y hj
      cases e; exact ⟨b, k, t1, t2, x, z, rfl, h1, hm⟩
    clear hy
    walk_at "STEPSW"
    (with_reducible rename Fr _ _ _ _ => kF)
    (with_reducible rename News _ _ _ _ => kN)
    (with_reducible rename Obj.IsDictOf (PySem.strKind PW w) _ _ => hdo)
    (with_reducible rename PyProof.V.FlatPairs PyData.str [] [] => hfl)
    (with_reducible rename (_ == sysModules) = false => lo)
    obtain ⟨d, hd9⟩ := frRef kF (Str.ofString "sums") rfl
    subst hd9
    have lD : ∀ p ∈ els ++ [(D, LCg.lst ys), (a, listObj vs n)], @LT.lt Nat _ p.1 d := by assumption
    have hnd : s.heap.get? d = none := (kN _ (.head _)).2.2
    refine forG s.heap ?_
    walk_at "STEPSW"
    (with_reducible rename Fr _ _ _ _ => kF)
    (with_reducible rename News _ _ _ _ => kN)
    refine loopList (vs := ys) (nn := ys.length) (fun i m nx => ∃ o kvs u, nx = (d, o) :: (els ++ [(D, LCg.lst ys), (a, listObj vs n)]) ∧ o.IsDictOf (PySem.strKind PW w) kvs ∧ PyProof.V.FlatPairs PyData.str kvs (kdpD (sumsOf (uRows rows) i)) ∧ m = loc [("rows", .ref D), ("sums", .ref d)] u) rfl (GoOk.list (fun _ _ h => h.1) fun i v h => ?go) (fr_loc kF [("rows", .ref D), ("sums", .ref d)] ⟨rfl, rfl, trivial⟩) kN (.inl (by simp)) (.inl fun _ _ _ ⟨_, _, _, h, _⟩ => by rw [h]; simp) ⟨_, _, _, rfl, hdo, hfl, rfl⟩ ?step ?done
    case go => obtain ⟨b, k, t1, t2, x, z, e, _⟩ := hys i v (by simpa using h); exact ⟨b, e⟩
    case step =>
      rintro i v m₁ nx h tk own hi hv ⟨o, kvs, u, rfl, hdo, hfl, rfl⟩ hoff F N
      clear kF kN
      obtain ⟨b, k, t1, t2, x, z, rfl, hus, hmem⟩ := hys i v hv
      have hxw : WordOk x := by
        obtain ⟨r, hr1, hr2⟩ := uRows_row hus
        rw [hr2]; exact (hrc r hr1).2.1
      refine assign_Tuple_tuple rfl ⟨_, (N (b, tupObj [sv x t1, .int z t2] k) (by simp [hmem])).1, rfl, _, rfl⟩ rfl rfl ?_
      intro h5 x5
      have e5 : Ext h h5 := fun b o e => x5 b o (Nat.ne_of_lt (Heap.lt_size e)) e
      replace F := frExt F e5
      replace N := newsExt N e5
      walk_at "STEPSW"
      refine forG s.heap ?_
      walk_at "STEPSW"
      (with_reducible rename Fr _ _ _ _ => kF)
      (with_reducible rename News _ _ _ _ => kN)
      refine loopList (vs := ys) (nn := ys.length) (fun j m nx => ∃ t3 t4 u, nx = ((d, o) :: (els ++ [(D, LCg.lst ys), (a, listObj vs n)])) ++ own ∧ m = loc [("rows", .ref D), ("sums", .ref d), ("name", sv x t3), ("total", .int (((uRows rows).take j).foldl (addIf x) z) t4)] u) rfl (GoOk.list (fun _ _ h => h.1) fun i v h => ?go2) (fr_loc kF [("rows", .ref D), ("sums", .ref d), ("name", sv x _), ("total", .int z _)] ⟨rfl, rfl, rfl, rfl, trivial⟩) kN (.inl (by simp)) (.inl fun _ _ _ ⟨_, _, _, h, _⟩ => by rw [h]; simp) ⟨_, _, _, rfl, rfl⟩ ?step2 ?done2
      case go2 => obtain ⟨b, k, t1, t2, x, z, e, _⟩ := hys i v (by simpa using h); exact ⟨b, e⟩
      case step2 =>
        clear F N kF kN
        rintro j v m₁ nx h7 tk7 ow hj hvj ⟨t3, t4, u2, rfl, rfl⟩ hoff7 F N
        obtain ⟨b2, k2, t5, t6, x2, z2, rfl, hus2, hmem2⟩ := hys j v hvj
        have hxw2 : WordOk x2 := by
          obtain ⟨r, hr1, hr2⟩ := uRows_row hus2
          rw [hr2]; exact (hrc r hr1).2.1
        refine assign_Tuple_tuple rfl ⟨_, (N (b2, tupObj [sv x2 t5, .int z2 t6] k2) (by simp [hmem2])).1, rfl, _, rfl⟩ rfl rfl ?_
        intro h8 x8
        have e8 : Ext h7 h8 := fun b o e => x8 b o (Nat.ne_of_lt (Heap.lt_size e)) e
        replace F := frExt F e8
        replace N := newsExt N e8
        walk_at "STEPSW"
        have hfold := fold_take (n := x) (t := z) hus2
        have hz2 : x2.toArray.size ≤ 5 := by rw [List.size_toArray]; exact hxw2.2
        have hz1 : x.toArray.size ≤ 5 := by rw [List.size_toArray]; exact hxw.2
        refine SBL.len (x := st x2) (by show ((x2.toArray.size : Nat) : Int) < _; omega) ?_
        walk_at "STEPSW"
        refine SBL.len (x := st x) (by show ((x.toArray.size : Nat) : Int) < _; omega) ?_
        walk_at "STEPSW"
        · refine' ell_some (a := st []) (b := st []) (mid := [st x2]) ?h1 ?h2 (dots_around hxw2).1 (dots_around hxw2).2 ?h3 (by show 1 < 1000; omega) ?h4 ?h5 ?_
          case h1 => walk_at "HERE"
          case h2 => walk_at "ROOM"
          case h3 =>
            intro c hc
            simp only [List.mem_cons, List.cons_append, List.nil_append, List.not_mem_nil, or_false] at hc
            rcases hc with rfl | rfl | rfl
            · decide
            · show x2.toArray.size < 1000; omega
            · decide
          case h4 => show (DOTS ++ st x2 ++ DOTS).length < 1000; rw [Str.length_append, Str.length_append]; show 3 + x2.toArray.size + 3 < 1000; omega
          case h5 => show x.toArray.size < 1000; omega
          intro v9 h9 tk9 ext9 pv9
          (with_reducible rename Fr _ _ _ _ => kF)
          (with_reducible rename News _ _ _ _ => kN)
          replace kF := frExt kF ext9
          replace kN := newsExt kN ext9
          (try dsimp only at kF kN)
          subst pv9
          rw [ell_inf]
          have hlt2 : x2.length < x.length := by have hh : ((x2.toArray.size : Nat) : Int) < ((x.toArray.size : Nat) : Int) := (by assumption); rw [List.size_toArray, List.size_toArray] at hh; omega
          cases hm : inf x2 x
          · have ha : addIf x (((uRows rows).take j).foldl (addIf x) z) (x2, z2) = ((uRows rows).take j).foldl (addIf x) z := if_neg (fun q => by have := q.2; rw [hm] at this; cases this)
            rw [ha] at hfold
            walk_at "STEPSW"
            (with_reducible rename Fr _ _ _ _ => kF)
            (with_reducible rename News _ _ _ _ => kN)
            rw [← hfold] at kF
            exact ⟨_, _, _, _, rfl, fr_loc kF [("rows", .ref D), ("sums", .ref d), ("name", sv x t3), ("total", .int (((uRows rows).take (j + 1)).foldl (addIf x) z) _)] ⟨rfl, rfl, rfl, rfl, trivial⟩, kN, hoff7, _, _, _, rfl, rfl⟩
          · have ha : addIf x (((uRows rows).take j).foldl (addIf x) z) (x2, z2) = ((uRows rows).take j).foldl (addIf x) z + z2 := if_pos ⟨hlt2, hm⟩
            rw [ha] at hfold
            walk_at "STEPSW"
            refine' add_spec ?h1 ?h2 ?_
            case h1 => walk_at "HERE"
            case h2 => walk_at "ROOM"
            intro v9 h9 tk9 ext9 pv9
            (with_reducible rename Fr _ _ _ _ => kF)
            (with_reducible rename News _ _ _ _ => kN)
            replace kF := frExt kF ext9
            replace kN := newsExt kN ext9
            (try dsimp only at kF kN)
            obtain ⟨t8, rfl⟩ := pv9
            walk_at "STEPSW"
            (with_reducible rename Fr _ _ _ _ => kF)
            (with_reducible rename News _ _ _ _ => kN)
            rw [← hfold] at kF
            exact ⟨_, _, _, _, rfl, fr_loc kF [("rows", .ref D), ("sums", .ref d), ("name", sv x t3), ("total", .int (((uRows rows).take (j + 1)).foldl (addIf x) z) _)] ⟨rfl, rfl, rfl, rfl, trivial⟩, kN, hoff7, _, _, _, rfl, rfl⟩
        · have hlt2 : ¬ x2.length < x.length := by have hh : ¬ ((x2.toArray.size : Nat) : Int) < ((x.toArray.size : Nat) : Int) := (by assumption); rw [List.size_toArray, List.size_toArray] at hh; omega
          have ha : addIf x (((uRows rows).take j).foldl (addIf x) z) (x2, z2) = ((uRows rows).take j).foldl (addIf x) z := if_neg (fun q => hlt2 q.1)
          rw [ha] at hfold
          (with_reducible rename Fr _ _ _ _ => kF)
          (with_reducible rename News _ _ _ _ => kN)
          rw [← hfold] at kF
          exact ⟨_, _, _, _, rfl, fr_loc kF [("rows", .ref D), ("sums", .ref d), ("name", sv x t3), ("total", .int (((uRows rows).take (j + 1)).foldl (addIf x) z) _)] ⟨rfl, rfl, rfl, rfl, trivial⟩, kN, hoff7, _, _, _, rfl, rfl⟩
      case done2 =>
        clear F N kF kN
        rintro h7 tk7 m₁ nx F N ⟨t3, t4, u2, rfl, rfl⟩
        dsimp only [List.cons_append] at N
        walk_at "STEPSW"
        (with_reducible rename Fr _ _ _ _ => kF)
        (with_reducible rename News _ _ _ _ => kN)
        have hz : ys.length = (uRows rows).length := by unfold uRows; rw [List.length_map, hl', hr.len]
        refine kdp_setItem (k := st x) kF kN (.head ?u) hdo hfl ?z ?_
        case u =>
          intro q hq
          rcases List.mem_append.mp hq with hq | hq
          · exact fun e => Nat.lt_irrefl _ (e ▸ lD q hq)
          · exact hoff q hq d (by simp)
        case z => exact Nat.le_trans (sumsOf_len _ _) (by omega)
        intro h8 o8 kvs8 F8 N8 hdo8 hfl8
        clear kF kN
        rw [hz, List.take_length, show (uRows rows).foldl (addIf x) z = totOf (uRows rows) x z from rfl, ← sumsOf_succ hus] at hfl8
        walk_at "STEPSW"
        (with_reducible rename Fr _ _ _ _ => kF)
        (with_reducible rename News _ _ _ _ => kN)
        exact ⟨_, _, _, (d, o8) :: (els ++ [(D, LCg.lst ys), (a, listObj vs n)]), rfl, fr_loc kF [("rows", .ref D), ("sums", .ref d)] ⟨rfl, rfl, trivial⟩, kN, hoff, _, _, _, rfl, hdo8, hfl8, rfl⟩
    case done =>
      rintro h tk m' nx F N ⟨o, kvs, u, rfl, hdo, hfl, rfl⟩
      clear kF kN
      walk_at "STEPSW"
      walk_at "DONE"
      (with_reducible rename Fr _ _ _ _ => kF)
      (with_reducible rename News _ _ _ _ => kN)
      have hz : ys.length = rows.length := hl'.trans hr.len
      exact ⟨d, rfl, hnd, TabAt.ofObj lo (kN _ (.head _)).1 hdo (hz ▸ hfl)⟩
end
section
variable {prog : Program} {w : World} {A : Around} {s : Shared} {env : Env} {h₀ : Heap} {m : Str → Option Value} {news : List (Addr × Obj)} {E : Value → Shared → Prop} {body orelse : List Stmt} {Q : Flow → Shared → Prop}
theorem loopEnum {l : Addr} {vs : List Value} {elts : List Expr} {x1} {pos : Pos} (J : Nat → (Str → Option Value) → List (Addr × Obj) → Prop) (hh : A.handled = none)
    (F : Fr h₀ env.locals s.heap m) (N : News h₀ env.locals s.heap news) (hl : h₀.IsList l vs.toArray) (h0 : J 0 m news)
    (step : ∀ i x t T m₁ nx h tk own, i < vs.length → vs[i]? = some x → h.IsTuple T #[.int (i : Int) t, x] → J i m₁ nx → OwnOff own (nx.map (·.1)) → Fr h₀ env.locals h m₁ → News h₀ env.locals h (nx ++ own) →
      wpAny (model prog w) A (assign (.Tuple elts x1 pos) env (.ref T)) (fun _ s₃ => wpAny (model prog w) A (execs body env) (fun f s₄ => match f with
        | .ret v => Q (.ret v) s₄
        | .brk => Q .next s₄
        | _ => ∃ h' tk' m' nx', s₄ = { s with heap := h', toks := tk' } ∧ Fr h₀ env.locals h' m' ∧ News h₀ env.locals h' (nx' ++ own) ∧ OwnOff own (nx'.map (·.1)) ∧ J (i + 1) m' nx') (fun _ _ => False) s₃) (fun _ _ => False) { s with heap := h, toks := tk })
    (done : ∀ h' tk m' nx, Fr h₀ env.locals h' m' → News h₀ env.locals h' nx → J vs.length m' nx → wpAny (model prog w) A (execs orelse env) Q (fun _ _ => False) { s with heap := h', toks := tk }) :
    wpAny (model prog w) A (call (.type "enumerate") [.ref l]) (fun xv s₁ => wpAny (model prog w) A (pyIter xv) (fun it s₂ => LoopG prog w A h₀ env (.Tuple elts x1 pos) body orelse Q (fun _ _ => False) it s₂) E s₁) E s := by
  obtain ⟨ol, hol, hol2⟩ := hl
  have hols := F.keep _ _ hol
  have hlt : l < s.heap.objs.size := Heap.lt_size hols
  refine call_enumerate_list ⟨ol, hols, hol2⟩ fun h₁ he hi _ hk => ?_
  refine wpAny_pyIter_enum he ?_
  have hne : s.heap.objs.size + 1 ≠ s.heap.objs.size := Nat.succ_ne_self _
  have W := (WalksT.enumerate (prog := prog) (w := w) hh (s.heap.objs.size + 1) s.heap.objs.size l hne (Nat.ne_of_lt (Nat.lt_succ_of_lt hlt)) (Nat.ne_of_lt hlt) vs.toArray).toU
  have none9 : ∀ b, s.heap.objs.size ≤ b → h₀.get? b = none := fun b hb => by
    cases e : h₀.get? b with
    | none => rfl
    | some o => exact absurd (Heap.lt_size (F.keep _ _ e)) (Nat.not_lt.mpr hb)
  have two : ∀ b ∈ [s.heap.objs.size + 1, s.heap.objs.size], s.heap.objs.size ≤ b := fun b hb => by
    rcases List.mem_cons.mp hb with rfl | hb
    · exact Nat.le_succ _
    · rw [List.mem_singleton.mp hb]; exact Nat.le_refl _
  refine ⟨_, _, _, _, _, _, m, news, J, rfl, WalksH.ofU W, ?_, ?_, fun b hb => none9 b (two b hb), ?_, ?_, ⟨⟨_, he⟩, hi, ⟨ol, hk _ _ hols, hol2⟩⟩, frExt F hk, newsExt N hk, h0, ?_, ?_⟩
  · rintro i h ⟨⟨old, a⟩, ⟨o, b, _⟩, _⟩ c hc
    rcases List.mem_cons.mp hc with rfl | hc
    · exact ⟨_, a⟩
    · rw [List.mem_singleton.mp hc]; exact ⟨_, b⟩
  · intro hm; exact absurd F.ns.lt (Nat.not_lt.mpr (two _ hm))
  · intro p hp hm; exact absurd (Heap.lt_size (N p hp).1) (Nat.not_lt.mpr (two _ hm))
  · intro b hb
    rcases List.mem_cons.mp hb with rfl | hb
    · exact .inl List.mem_cons_self
    rcases List.mem_cons.mp hb with rfl | hb
    · exact .inl (by simp)
    · rw [List.mem_singleton.mp hb]; exact .inr (.inl ⟨ol, hol⟩)
  · rintro i v m₁ nx h tk own hi' ⟨T, vals, rfl, ⟨t, x, hx, rfl⟩, hT⟩ hJ ho F' N'
    exact step i x t T m₁ nx h tk own (by simpa using hi') (by simpa using hx) hT hJ ho F' N'
  · intro h' tk m' nx F' N' hJ
    exact done h' tk m' nx F' N' (by simpa using hJ)
end
theorem idx_true {bs : List Bool} {i : Nat} (h : ∀ j, j < i → bs[j]? = some false) (e : bs[i]? = some true) : bs.idxOf true = i := by
  induction bs generalizing i with
  | nil => simp at e
  | cons b r ih =>
    cases i with
    | zero => simp at e; subst e; simp [List.idxOf_cons]
    | succ i =>
      have hb : b = false := by simpa using h 0 (Nat.succ_pos _)
      subst hb
      have := ih (i := i) (fun j hj => by simpa using h (j + 1) (Nat.succ_lt_succ hj)) (by simpa using e)
      simp [List.idxOf_cons, this]
section
variable {w : World} {p : Program} {loose : List Str} {mg mb : Str → Option Value} {dp un : Nat} {fr : Option (List Env)} {gd : Option (List Code)} {s : Shared} {Q E : Value → Shared → Prop}
theorem indexOf_spec {l : Addr} {bs : List Bool} {nn : Nat} (H : Here w p loose mg mb s.heap) (hd : dp + 20 < 1000) (hl : s.heap.get? l = some (listObj (bs.map Value.bool) nn)) (hk : true ∈ bs)
    (ret : Ret s Q (fun v _ => ∃ t, v = .int ((bs.idxOf true : Nat) : Int) t)) : wpAny (model PW w) (au dp un fr gd) (call (.ref 101) [.ref l, .bool true]) Q E s := by
  have hrl : recursionLimit = 1000 := rfl
  k_dflt (refine' enterP (binds := [((PySem.Str.ofString "a"), .ref l), ((PySem.Str.ofString "b"), .bool true)]) (mm := fun y_ => List.lookup y_ [((PySem.Str.ofString "b"), .bool true), ((PySem.Str.ofString "a"), .ref l)]) (Here.X (by assumption)) (Here.T (by assumption)) ?k6 ?k7 ?k8 ?k9 ?kB ?hm ?_ ?c2 ?c3 ?c4 ?c5; (case k6 => k_is); (case k7 => k_is); (case k8 => (dsimp only; omega)); (case k9 => exact BindsTo.of_eq rfl); (case kB => exact locs rfl); (case hm => exact rfl); (case c5 => decide); (case c2 => exact rfl); (case c3 => exact rfl); (case c4 => exact rfl))
  intro L' h' F' N' X' T'
  k_fold
  walk_at "STEPSW"
  refine forG s.heap ?_
  walk_at "STEPSW"
  (with_reducible rename Fr _ _ _ _ => kF)
  (with_reducible rename News _ _ _ _ => kN)
  refine loopEnum (vs := bs.map Value.bool) (fun i m nx => nx = [] ∧ (∀ j, j < i → bs[j]? = some false) ∧ ∃ u, m = loc [("b", .bool true)] u) rfl (fr_loc kF [("b", .bool true)] ⟨rfl, trivial⟩) kN ⟨_, hl, rfl, _, rfl⟩ ⟨rfl, fun _ h => absurd h (Nat.not_lt_zero _), _, rfl⟩ ?step ?done
  case step =>
    rintro i x t T m₁ nx h tk own hi hx hT ⟨rfl, hf, u, rfl⟩ hoff F N
    clear kF kN
    rw [List.getElem?_map] at hx
    obtain ⟨b, hb, rfl⟩ := Option.map_eq_some_iff.mp hx
    refine assign_Tuple_tuple rfl hT rfl rfl ?_
    intro h5 x5
    have e5 : Ext h h5 := fun b o e => x5 b o (Nat.ne_of_lt (Heap.lt_size e)) e
    replace F := frExt F e5
    replace N := newsExt N e5
    cases b with
    | true =>
      walk_at "STEPSW"
      walk_at "DONE"
      exact ⟨_, by rw [idx_true hf hb]⟩
    | false =>
      walk_at "STEPSW"
      (with_reducible rename Fr _ _ _ _ => kF)
      (with_reducible rename News _ _ _ _ => kN)
      refine ⟨_, _, _, [], rfl, fr_loc kF [("b", .bool true)] ⟨rfl, trivial⟩, kN, fun _ _ _ h => (nomatch h), rfl, fun j hj => ?_, _, rfl⟩
      rcases Nat.lt_or_eq_of_le (Nat.lt_succ_iff.mp hj) with h | rfl
      · exact hf j h
      · exact hb
  case done =>
    rintro h tk m' nx F N ⟨rfl, hf, u, rfl⟩
    obtain ⟨i, hi, e⟩ := List.mem_iff_getElem.mp hk
    have := hf i (by simpa using hi)
    rw [List.getElem?_eq_getElem hi, e] at this
    cases this
end
/-- which fronts of a word, the longest first, are its end as well -/
def endsL (l : List Nat) : List Bool := (List.range l.length).map fun i => suf (l.take (l.length - 1 - i)) l
/-- the longest front that is the end as well -/
def frontOf (l : List Nat) : List Nat := l.take (l.length - 1 - (endsL l).idxOf true)
/-- the weight that comes back -/
def backV (sm : List Nat → Int) : Nat → List Nat → Int
  | 0, _ => 0
  | k + 1, l =>
    if l.length = 0 then sm l else
    if l.length < 2 then sm l - sm (l.drop 1) else
    if inf (frontOf l) (l.drop 1).dropLast = true then sm l - sm (l.drop 1) - sm l.dropLast + sm (l.drop 1).dropLast
    else sm l - sm (l.drop 1) - sm l.dropLast + sm (l.drop 1).dropLast + backV sm k (frontOf l)
theorem suf_nil (l : List Nat) : suf [] l = true := by simp [suf, pre]
theorem ends_true {l : List Nat} (h : l ≠ []) : true ∈ endsL l := by
  unfold endsL
  have hl : 0 < l.length := List.length_pos_iff.mpr h
  exact List.mem_map.mpr ⟨l.length - 1, List.mem_range.mpr (by omega), by rw [show l.length - 1 - (l.length - 1) = 0 by omega]; exact suf_nil l⟩
theorem endsL_get {l : List Nat} {i : Nat} (h : i < l.length) : (endsL l)[i]? = some (suf (l.take (l.length - 1 - i)) l) := by
  unfold endsL
  rw [List.getElem?_map, List.getElem?_range h]; rfl
theorem inf_trans {a b c : List Nat} (h1 : inf a b = true) (h2 : inf b c = true) : inf a c = true := by
  obtain ⟨k, h3, h4⟩ := (inf_iff a b).mp h1
  obtain ⟨j, h5, h6⟩ := (inf_iff b c).mp h2
  refine (inf_iff a c).mpr ⟨j + k, by omega, ?_⟩
  have e : (c.drop (j + k)).take a.length = ((b.drop k)).take a.length := by
    rw [← h6, List.drop_take, List.take_take, List.drop_drop, Nat.min_eq_left (by omega)]
  rw [e]; exact h4
theorem inf_self (l : List Nat) : inf l l = true := (inf_iff l l).mpr ⟨0, by omega, by simp⟩
theorem inf_drop (l : List Nat) (k : Nat) : inf (l.drop k) l = true := by
  by_cases h : k ≤ l.length
  · exact (inf_iff _ _).mpr ⟨k, by rw [List.length_drop]; omega, List.take_of_length_le (Nat.le_refl _)⟩
  · rw [List.drop_eq_nil_of_le (by omega)]; exact (inf_iff _ _).mpr ⟨0, by simp, by simp⟩
theorem inf_take (l : List Nat) (k : Nat) : inf (l.take k) l = true := by
  refine (inf_iff _ _).mpr ⟨0, by rw [List.length_take]; omega, ?_⟩
  rw [List.drop_zero, List.length_take]
  by_cases h : k ≤ l.length
  · rw [Nat.min_eq_left h]
  · rw [Nat.min_eq_right (by omega), List.take_of_length_le (Nat.le_refl _), List.take_of_length_le (by omega)]
theorem inf_dropLast (l : List Nat) : inf l.dropLast l = true := by rw [List.dropLast_eq_take]; exact inf_take _ _
theorem WordOk.take {l : List Nat} (h : WordOk l) (k : Nat) : WordOk (l.take k) := ⟨fun c hc => h.1 c (List.mem_of_mem_take hc), by rw [List.length_take]; have := h.2; omega⟩
theorem WordOk.drop {l : List Nat} (h : WordOk l) (k : Nat) : WordOk (l.drop k) := ⟨fun c hc => h.1 c (List.mem_of_mem_drop hc), by rw [List.length_drop]; have := h.2; omega⟩
theorem WordOk.dropLast {l : List Nat} (h : WordOk l) : WordOk l.dropLast := by rw [List.dropLast_eq_take]; exact h.take _
/-- a word's first letter and its last -/
theorem first_one {l : List Nat} (h : l ≠ []) : ∃ a, l.take 1 = [a] ∧ pre [a] l = true := by
  cases l with
  | nil => exact absurd rfl h
  | cons a r => exact ⟨a, rfl, by simp [pre]⟩
theorem last_one {l : List Nat} (h : l ≠ []) : ∃ b, l.drop (l.length - 1) = [b] ∧ suf [b] l = true := by
  have hl : 0 < l.length := List.length_pos_iff.mpr h
  have e : (l.drop (l.length - 1)).length = 1 := by rw [List.length_drop]; omega
  obtain ⟨b, hb⟩ := List.length_eq_one_iff.mp e
  refine ⟨b, hb, ?_⟩
  unfold suf
  rw [show ([b] : List Nat).length = 1 from rfl, hb, decide_eq_true (by omega : 1 ≤ l.length)]
  simp [pre]
section
open PySem.StrLaws PySem.Builtin.Str
def clipZ (v : Option Int) (d : Int) (n : Nat) : Int := match v with | none => d | some i => max 0 (min (if i < 0 then i + (n : Int) else i) n)
theorem slice_idx {u v : Option Int} {a b n : Nat} (hu : clipZ u 0 n = a) (hv : clipZ v n n = b) (ha : a ≤ n) (hb : b ≤ n) :
    strSliceIndices u v 1 n = strSliceIndices (some (a : Int)) (some (b : Int)) 1 n := by
  have e1 : clipZ (some (a : Int)) 0 n = a := by unfold clipZ; dsimp only; rw [if_neg (by omega)]; omega
  have e2 : clipZ (some (b : Int)) n n = b := by unfold clipZ; dsimp only; rw [if_neg (by omega)]; omega
  have key : ∀ u v : Option Int, strSliceIndices u v 1 n = sliceRange (clipZ u 0 n) (clipZ v n n) 1 := by
    intro u v; cases u <;> cases v <;> rfl
  rw [key, key, hu, hv, e1, e2]
theorem slice_st {l : List Nat} {u v : Option Int} (a b : Nat) (hu : clipZ u 0 l.length = a) (hv : clipZ v l.length l.length = b) (hab : a ≤ b) (hb : b ≤ l.length) :
    Txt.slice (st l) u v = st ((l.drop a).take (b - a)) := by
  have e : Txt.slice (st l) u v = sliceText (st l) (some (a : Int)) (some (b : Int)) := by
    show sliceText (st l) u v = _
    unfold sliceText
    rw [st_len, slice_idx hu hv (by omega) hb]
  rw [e, sliceText_nat (st l) hab (by rw [st_len]; exact hb)]
theorem slice_1n {l : List Nat} (h : l ≠ []) : Txt.slice (st l) (some 1) none = st (l.drop 1) := by
  have hl : 0 < l.length := List.length_pos_iff.mpr h
  rw [slice_st 1 l.length (by unfold clipZ; dsimp only; rw [if_neg (by decide)]; omega) rfl hl (Nat.le_refl _), List.take_of_length_le (by rw [List.length_drop]; exact Nat.le_refl _)]
theorem slice_n1 {l : List Nat} (h : l ≠ []) : Txt.slice (st l) none (some 1) = st (l.take 1) := by
  have hl : 0 < l.length := List.length_pos_iff.mpr h
  rw [slice_st 0 1 rfl (by unfold clipZ; dsimp only; rw [if_neg (by decide)]; omega) (by decide) hl]; rfl
theorem slice_m1n {l : List Nat} (h : l ≠ []) : Txt.slice (st l) (some (-1)) none = st (l.drop (l.length - 1)) := by
  have hl : 0 < l.length := List.length_pos_iff.mpr h
  rw [slice_st (l.length - 1) l.length (by unfold clipZ; dsimp only; rw [if_pos (by decide)]; omega) rfl (by omega) (Nat.le_refl _), List.take_of_length_le (by rw [List.length_drop]; exact Nat.le_refl _)]
theorem slice_nm1 {l : List Nat} (h : l ≠ []) : Txt.slice (st l) none (some (-1)) = st l.dropLast := by
  have hl : 0 < l.length := List.length_pos_iff.mpr h
  rw [slice_st 0 (l.length - 1) rfl (by unfold clipZ; dsimp only; rw [if_pos (by decide)]; omega) (by omega) (by omega), List.dropLast_eq_take]; rfl
theorem slice_1m1 {l : List Nat} (h : 2 ≤ l.length) : Txt.slice (st l) (some 1) (some (-1)) = st (l.drop 1).dropLast := by
  rw [slice_st 1 (l.length - 1) (by unfold clipZ; dsimp only; rw [if_neg (by decide)]; omega) (by unfold clipZ; dsimp only; rw [if_pos (by decide)]; omega) (by omega) (by omega), List.dropLast_eq_take, List.length_drop]
theorem slice_nk {l : List Nat} {i : Int} (k : Nat) (e : i = k) (h : k ≤ l.length) : Txt.slice (st l) none (some i) = st (l.take k) := by
  rw [slice_st 0 k rfl (by subst e; unfold clipZ; dsimp only; rw [if_neg (by omega)]; omega) (Nat.zero_le _) h]; rfl
end
/-- a word stands in another at a place -/
def Occ (u l : List Nat) (k : Nat) : Prop := k + u.length ≤ l.length ∧ (l.drop k).take u.length = u
theorem inf_l1 {u l : List Nat} (hl : 1 ≤ l.length) : inf u (l.drop 1) = true ↔ ∃ k, 1 ≤ k ∧ Occ u l k := by
  rw [inf_iff]
  constructor
  · rintro ⟨k, h1, h2⟩
    rw [List.length_drop] at h1
    rw [List.drop_drop] at h2
    exact ⟨1 + k, by omega, by omega, h2⟩
  · rintro ⟨k, h1, h2, h3⟩
    refine ⟨k - 1, by rw [List.length_drop]; omega, ?_⟩
    rw [List.drop_drop, show 1 + (k - 1) = k by omega]; exact h3
theorem occ_l2 {u l : List Nat} {k : Nat} (hl : 1 ≤ l.length) : Occ u l.dropLast k ↔ Occ u l k ∧ k + u.length ≤ l.length - 1 := by
  unfold Occ
  rw [List.length_dropLast]
  constructor
  · rintro ⟨h1, h2⟩
    refine ⟨⟨by omega, ?_⟩, h1⟩
    rw [List.dropLast_eq_take, List.drop_take, List.take_take, Nat.min_eq_left (by omega)] at h2
    exact h2
  · rintro ⟨⟨h1, h2⟩, h3⟩
    refine ⟨h3, ?_⟩
    rw [List.dropLast_eq_take, List.drop_take, List.take_take, Nat.min_eq_left (by omega)]
    exact h2
theorem inf_l2 {u l : List Nat} (hl : 1 ≤ l.length) : inf u l.dropLast = true ↔ ∃ k, Occ u l k ∧ k + u.length ≤ l.length - 1 := by
  rw [inf_iff]
  constructor
  · rintro ⟨k, h⟩; exact ⟨k, (occ_l2 hl).mp h⟩
  · rintro ⟨k, h⟩; exact ⟨k, (occ_l2 hl).mpr h⟩
theorem inf_l12 {u l : List Nat} (hl : 2 ≤ l.length) : inf u (l.drop 1).dropLast = true ↔ ∃ k, 1 ≤ k ∧ Occ u l k ∧ k + u.length ≤ l.length - 1 := by
  rw [inf_l2 (by rw [List.length_drop]; omega)]
  constructor
  · rintro ⟨k, ⟨h1, h2⟩, h3⟩
    rw [List.length_drop] at h1 h3
    rw [List.drop_drop] at h2
    exact ⟨1 + k, by omega, ⟨by omega, h2⟩, by omega⟩
  · rintro ⟨k, h1, ⟨h2, h3⟩, h4⟩
    refine ⟨k - 1, ⟨by rw [List.length_drop]; omega, ?_⟩, by rw [List.length_drop]; omega⟩
    rw [List.drop_drop, show 1 + (k - 1) = k by omega]; exact h3
theorem suf_occ {u l : List Nat} : suf u l = true ↔ u.length ≤ l.length ∧ Occ u l (l.length - u.length) := by
  unfold suf Occ
  rw [Bool.and_eq_true, decide_eq_true_eq, pre_iff]
  constructor
  · rintro ⟨h1, h2⟩; exact ⟨h1, by omega, h2⟩
  · rintro ⟨h1, _, h2⟩; exact ⟨h1, h2⟩
theorem idx_spec {bs : List Bool} (h : true ∈ bs) : bs[bs.idxOf true]? = some true ∧ ∀ i, i < bs.idxOf true → bs[i]? = some false := by
  induction bs with
  | nil => cases h
  | cons b r ih =>
    cases b with
    | true => simp [List.idxOf_cons]
    | false =>
      have hr : true ∈ r := by simpa using h
      have e : (false :: r).idxOf true = r.idxOf true + 1 := by simp [List.idxOf_cons]
      rw [e]
      refine ⟨by simpa using (ih hr).1, fun i hi => ?_⟩
      cases i with
      | zero => rfl
      | succ i => simpa using (ih hr).2 i (by omega)
/-- the longest front that is the end as well -/
theorem front_spec {l : List Nat} (h : l ≠ []) : ∃ j, frontOf l = l.take j ∧ j < l.length ∧ suf (l.take j) l = true ∧ ∀ i, j < i → i < l.length → suf (l.take i) l = false := by
  have hl : 0 < l.length := List.length_pos_iff.mpr h
  obtain ⟨h1, h2⟩ := idx_spec (ends_true h)
  have hi : (endsL l).idxOf true < l.length := by
    obtain ⟨a, _⟩ := List.getElem?_eq_some_iff.mp h1
    have e : (endsL l).length = l.length := by unfold endsL; rw [List.length_map, List.length_range]
    omega
  refine ⟨l.length - 1 - (endsL l).idxOf true, rfl, by omega, ?_, fun i hi1 hi2 => ?_⟩
  · rw [endsL_get hi] at h1; exact Option.some.inj h1
  · have := h2 (l.length - 1 - i) (by omega)
    rw [endsL_get (by omega), show l.length - 1 - (l.length - 1 - i) = i by omega] at this
    exact Option.some.inj this
def i1 (b : Bool) : Int := if b = true then 1 else 0
def d1 (u l : List Nat) : Int := if u = l then 1 else 0
theorem occ_zero {u l : List Nat} (h : Occ u l 0) : u = l.take u.length := by have := h.2; rw [List.drop_zero] at this; exact this.symm
theorem occ_ext {u v l : List Nat} {k : Nat} (h1 : Occ u l k) (h2 : Occ v l k) (e : u.length = v.length) : u = v := by rw [← h1.2, ← h2.2, e]
/-- what is told of a word by the four sums -/
theorem four {u l : List Nat} (hl : 2 ≤ l.length) :
    i1 (inf u l) - i1 (inf u (l.drop 1)) - i1 (inf u l.dropLast) + i1 (inf u (l.drop 1).dropLast) = d1 u l - (if inf (frontOf l) (l.drop 1).dropLast = true then 0 else d1 u (frontOf l)) := by
  have hne : l ≠ [] := fun e => by subst e; simp at hl
  obtain ⟨j, hf, hj, hs, hmax⟩ := front_spec hne
  rw [hf]
  have zj : (l.take j).length = j := by rw [List.length_take]; omega
  have p0 : Occ (l.take j) l 0 := ⟨by omega, by rw [List.drop_zero, zj]⟩
  have ps := (suf_occ.mp hs).2
  rw [zj] at ps
  have f0 : inf (l.take j) l = true := inf_take l j
  have f1 : inf (l.take j) (l.drop 1) = true := (inf_l1 (by omega)).mpr ⟨_, by omega, ps⟩
  have f2 : inf (l.take j) l.dropLast = true := (inf_l2 (by omega)).mpr ⟨0, p0, by omega⟩
  have short : ∀ {b : Bool}, (b = true → u.length < l.length) → b = true → d1 u l = 0 := fun h e => by
    unfold d1; rw [if_neg]; intro q; have := h e; rw [q] at this; omega
  have nf : (u = l.take j → False) → d1 u (l.take j) = 0 := fun h => by unfold d1; rw [if_neg h]
  cases c : inf u (l.drop 1).dropLast with
  | true =>
    obtain ⟨k, k1, k2, k3⟩ := (inf_l12 hl).mp c
    rw [(inf_l1 (by omega)).mpr ⟨k, k1, k2⟩, (inf_l2 (by omega)).mpr ⟨k, k2, k3⟩, (inf_iff u l).mpr ⟨k, k2⟩]
    have e1 : d1 u l = 0 := by unfold d1; rw [if_neg]; intro q; rw [q] at k3; omega
    rw [e1]
    by_cases q : inf (l.take j) (l.drop 1).dropLast = true
    · rw [if_pos q]; rfl
    · rw [if_neg q, nf (fun e => q (e ▸ c))]; rfl
  | false =>
    have no : ∀ k, 1 ≤ k → Occ u l k → k + u.length ≤ l.length - 1 → False := fun k a b d => by
      have := (inf_l12 hl).mpr ⟨k, a, b, d⟩; rw [c] at this; cases this
    cases a1 : inf u (l.drop 1) with
    | true =>
      obtain ⟨k, k1, k2⟩ := (inf_l1 (by omega)).mp a1
      have e0 : inf u l = true := (inf_iff u l).mpr ⟨k, k2⟩
      have kz : u.length < l.length := by have := k2.1; omega
      have e1 : d1 u l = 0 := by unfold d1; rw [if_neg]; intro q; rw [q] at kz; omega
      cases a2 : inf u l.dropLast with
      | true =>
        obtain ⟨k', m1, m2⟩ := (inf_l2 (by omega)).mp a2
        have k0 : k' = 0 := by
          rcases Nat.eq_zero_or_pos k' with h | h
          · exact h
          · exact (no k' h m1 m2).elim
        subst k0
        have ke : k + u.length = l.length := by
          rcases Nat.lt_or_ge (k + u.length) l.length with h | h
          · exact (no k k1 k2 (by omega)).elim
          · have := k2.1; omega
        have ut : u = l.take u.length := occ_zero m1
        have us : suf u l = true := suf_occ.mpr ⟨by omega, by rw [show l.length - u.length = k by omega]; exact k2⟩
        have uj : u.length ≤ j := by
          rcases Nat.lt_or_ge j u.length with h | h
          · have := hmax u.length h kz
            rw [← ut, us] at this; cases this
          · exact h
        have ue : u = l.take j := by
          rcases Nat.lt_or_eq_of_le uj with h | h
          · refine (no (j - u.length) (by omega) ⟨by omega, ?_⟩ (by omega)).elim
            have x1 : (l.drop (l.length - u.length)).take u.length = u := by have := (suf_occ.mp us).2.2; exact this
            have x2 : (l.drop (l.length - j)).take j = l.take j := by have := ps.2; rw [zj] at this; exact this
            have x3 : (l.drop (j - u.length)).take u.length = ((l.take j).drop (j - u.length)) := by rw [List.drop_take, show j - (j - u.length) = u.length by omega]
            rw [x3, ← x2, List.drop_take, show j - (j - u.length) = u.length by omega, List.drop_drop, show l.length - j + (j - u.length) = l.length - u.length by omega, x1]
          · rw [← h]; exact ut
        rw [e0, e1, ← ue, c, if_neg (by decide)]
        unfold d1; rw [if_pos rfl]; rfl
      | false =>
        rw [e0, e1]
        have e2 : d1 u (l.take j) = 0 := nf fun e => by rw [e, f2] at a2; cases a2
        rw [e2]; split <;> rfl
    | false =>
      have e2 : d1 u (l.take j) = 0 := nf fun e => by rw [e, f1] at a1; cases a1
      rw [e2]
      cases a2 : inf u l.dropLast with
      | true =>
        obtain ⟨k, m1, m2⟩ := (inf_l2 (by omega)).mp a2
        have e0 : inf u l = true := (inf_iff u l).mpr ⟨k, m1⟩
        have e1 : d1 u l = 0 := by unfold d1; rw [if_neg]; intro q; rw [q] at m2; omega
        rw [e0, e1]; split <;> rfl
      | false =>
        cases a0 : inf u l with
        | true =>
          obtain ⟨k, m⟩ := (inf_iff u l).mp a0
          have k0 : k = 0 := by
            rcases Nat.eq_zero_or_pos k with h | h
            · exact h
            · have := (inf_l1 (u := u) (l := l) (by omega)).mpr ⟨k, h, m⟩; rw [a1] at this; cases this
          subst k0
          have ke : u.length = l.length := by
            rcases Nat.lt_or_ge u.length l.length with h | h
            · have := (inf_l2 (u := u) (l := l) (by omega)).mpr ⟨0, m, by omega⟩; rw [a2] at this; cases this
            · have := m.1; omega
          have ue : u = l := by rw [occ_zero m, ke, List.take_length]
          have e1 : d1 u l = 1 := by unfold d1; rw [if_pos ue]
          rw [e1]; split <;> rfl
        | false =>
          have e1 : d1 u l = 0 := by unfold d1; rw [if_neg]; intro q; rw [q, inf_self] at a0; cases a0
          rw [e1]; split <;> rfl
/-- a sum over the rows -/
def sumBy (us : List (List Nat × Int)) (g : List Nat → Int) : Int := (us.map fun u => g u.1 * u.2).sum
theorem sumBy_cons (u : List Nat × Int) (us : List (List Nat × Int)) (g : List Nat → Int) : sumBy (u :: us) g = g u.1 * u.2 + sumBy us g := by simp [sumBy]
theorem sumBy_add (f g : List Nat → Int) : ∀ us, sumBy us f + sumBy us g = sumBy us (fun x => f x + g x)
  | [] => rfl
  | u :: us => by rw [sumBy_cons, sumBy_cons, sumBy_cons, ← sumBy_add f g us, Int.add_mul]; omega
theorem sumBy_sub (f g : List Nat → Int) : ∀ us, sumBy us f - sumBy us g = sumBy us (fun x => f x - g x)
  | [] => rfl
  | u :: us => by rw [sumBy_cons, sumBy_cons, sumBy_cons, ← sumBy_sub f g us, Int.sub_mul]; omega
theorem sumBy_congr {f g : List Nat → Int} {us : List (List Nat × Int)} (h : ∀ x, f x = g x) : sumBy us f = sumBy us g := by rw [show f = g from funext h]
/-- out of the sums each weight comes back -/
theorem back_weight {us : List (List Nat × Int)} {sm : List Nat → Int} : ∀ (k : Nat) (l : List Nat), l.length < k → (∀ x, inf x l = true → sm x = sumBy us fun u => i1 (inf u x)) → backV sm k l = sumBy us fun u => d1 u l
  | 0, _, h, _ => absurd h (Nat.not_lt_zero _)
  | k + 1, l, hk, hs => by
    unfold backV
    have h0 := hs l (inf_self l)
    have h1 := hs _ (inf_drop l 1)
    by_cases z : l.length = 0
    · rw [if_pos z, h0]
      have : l = [] := List.length_eq_zero_iff.mp z
      subst this
      refine sumBy_congr fun u => ?_
      cases u with
      | nil => rfl
      | cons a r => rfl
    rw [if_neg z]
    by_cases z2 : l.length < 2
    · rw [if_pos z2, h0, h1, sumBy_sub]
      refine sumBy_congr fun u => ?_
      obtain ⟨a, rfl⟩ := List.length_eq_one_iff.mp (show l.length = 1 by omega)
      cases u with
      | nil => rfl
      | cons b r =>
        cases r with
        | nil =>
          show i1 ((Nat.beq b a && true) || false) - 0 = if ([b] : List Nat) = [a] then 1 else 0
          by_cases e : b = a
          · subst e; rw [Nat.beq_refl]; simp [i1]
          · rw [show Nat.beq b a = false from (by cases h : Nat.beq b a with | false => rfl | true => exact absurd (Nat.eq_of_beq_eq_true h) e)]; simp [i1, e]
        | cons c r =>
          show i1 ((Nat.beq b a && false) || false) - 0 = if (b :: c :: r : List Nat) = [a] then 1 else 0
          simp [i1]
    rw [if_neg z2]
    have hl : 2 ≤ l.length := by omega
    have h2 := hs _ (inf_dropLast l)
    have h3 := hs _ (inf_trans (inf_dropLast _) (inf_drop l 1))
    have main : sm l - sm (l.drop 1) - sm l.dropLast + sm (l.drop 1).dropLast = sumBy us (fun u => d1 u l - (if inf (frontOf l) (l.drop 1).dropLast = true then 0 else d1 u (frontOf l))) := by
      rw [h0, h1, h2, h3, sumBy_sub, sumBy_sub, sumBy_add]
      exact sumBy_congr fun u => four hl
    by_cases q : inf (frontOf l) (l.drop 1).dropLast = true
    · rw [if_pos q, main]
      exact sumBy_congr fun u => by rw [if_pos q, Int.sub_zero]
    · rw [if_neg q, main]
      have hne : l ≠ [] := fun e => z (by rw [e]; rfl)
      obtain ⟨j, hf, hj, _⟩ := front_spec hne
      have ih := back_weight (us := us) (sm := sm) k (frontOf l) (by rw [hf, List.length_take]; omega) (fun x hx => hs x (inf_trans hx (by rw [hf]; exact inf_take l j)))
      rw [ih, sumBy_add]
      exact sumBy_congr fun u => by rw [if_neg q]; omega
theorem rangeDown : ∀ n : Fin 6, 1 ≤ n.val → Builtin.Range.small ((n.val : Int) - 1) (-1) (-1) = true ∧ Builtin.Range.rangeSize ((n.val : Int) - 1) (-1) (-1) = (n.val : Int) := by decide +kernel
section
variable {prog : Program} {w : World} {A : Around} {s : Shared} {env : Env} {h₀ : Heap} {m : Str → Option Value} {news : List (Addr × Obj)} {E : Value → Shared → Prop} {target : Expr}
theorem compRange {elt : Expr} {scope : Scope} {cl : List (Str × Addr)} {up : Value → (Str → Option Value) → (Str → Option Value)} {Q : Value → Shared → Prop} {r : Addr} {a b c : Int} {t u v : Tok} (n : Nat) (G : Nat → Value → Option Obj → Prop) (hr : IsRange s.heap r a b c t u v) (hsm : Builtin.Range.small a b c = true) (hn : Builtin.Range.rangeSize a b c = (n : Int)) (hh : A.handled = none) (hgo : ∀ I v, letOwnedTupleGo target (.ref I) v = pure ())
    (F : Fr h₀ env.locals s.heap m) (N : News h₀ env.locals s.heap news) (hsz : n ≤ sizeLine)
    (helt : ∀ g i t C m₃ h tk own, i < n → env.locals ≠ C → (∀ b o', h₀.get? b = some o' → g.get? b = some o') → (∀ p ∈ news, g.get? p.1 = some p.2) →
      Fr g C h m₃ → News g C h own →
      wpAny (model prog w) A (assign target (compEnvC scope cl C env) (.int (a + (i : Int) * c) t)) (fun _ s₄ => wpAny (model prog w) A (eval elt (compEnvC scope cl C env)) (fun y s₅ =>
        ∃ h' tk' m' oo, s₅ = { s with heap := h', toks := tk' } ∧ Fr g C h' m' ∧ News g C h' own ∧ G i y oo ∧ AtN h' (fun a => a = C ∨ g.get? a ≠ none ∨ ∃ p ∈ own, p.1 = a) y oo) (fun _ _ => False) s₄) (fun _ _ => False) { s with heap := h, toks := tk })
    (hQ : ∀ D h' tk ys els, Fr h₀ env.locals h' (up (.ref D) m) → News h₀ env.locals h' (els ++ (D, LCg.lst ys) :: news) → (∀ p ∈ els, p.1 ≠ D ∧ s.heap.get? p.1 = none) → s.heap.get? D = none → ys.length = n → (∀ j y, ys[j]? = some y → ∃ oo, G j y oo ∧ InE els y oo) → Q (.ref D) { s with heap := h', toks := tk }) :
    wpAny (model prog w) A (pyIter (.ref r)) (fun it s₂ => CompG prog w A h₀ env elt target scope cl up Q it s₂) E s := by
  refine wpAny_pyIter_range hr hsm ?_
  refine compFresh G F N rfl (Walks.range hh s.heap.objs.size a c n) (GoOk.name (hgo _)) hsz (fun i h st => ⟨_, st⟩) (fun b hb => .inl (List.mem_singleton.mp hb)) ?_ ?_ hQ
  · show IsRangeIter _ _ _ _ _
    rw [hn]
    simpa using Heap.get?_push_size _ rfl
  · rintro i v C m₃ h tk own hi ⟨t, rfl⟩ hLC g0 gn F N
    exact helt _ i t C m₃ h tk own hi hLC g0 gn F N
theorem frC {L c : Addr} {x : Str} {pos : Pos} {o : Obj} {v : Value} {Q : Value → Shared → Prop} (F : Fr h₀ L s.heap m) (e : h₀.get? c = some o) (hd : o.data = .cell (some v)) (hc : env.cells.lookup x = some c) (h : Q v s)
    (hk : env.scope.kind = .function := by rfl) (hx : env.kindOf x = some .cell := by rfl) (hb : (x == ("__debug__" : Str)) = false := by decide) :
    wpAny (model prog w) A (eval (.Name x pos) env) Q E s := wpAny_Name (wpAny_loadName_cell hk hx hc ⟨o, F.keep _ _ e, hd⟩ h) hb
end
local macro_rules | `(tactic| walk_at "eval Name") => `(tactic| (k_here; (with_reducible show wpAny _ _ (eval (Expr.Name _ _) (compEnvC _ _ _ _)) _ _ _); k_dflt (refine' frC ?k1 ?k2 ?k3 ?k4 ?_; (case k1 => k_asm); (case k4 => exact rfl); (case k2 => assumption); (case k3 => assumption); k_whole)))
local macro_rules | `(tactic| walk_at "NOWALK") => `(tactic| first | (with_reducible show wpAny _ _ (call (Value.type "range") _ _) _ _ _) | (with_reducible show wpAny _ _ (call (Value.builtin "len") _ _) _ _ _) | (with_reducible show wpAny _ _ (subscriptTail _ _ (Value.str _ _) _) _ _ _) | fail)
theorem dots_len : (Str.ofString "...").length = 3 := rfl
local macro_rules | `(tactic| walk_at "SHORT") => `(tactic| ((try simp only [Str.length_append, st_len, List.length_take, List.length_drop, List.length_dropLast, dots_len, sizeLine_eq]); omega))
local macro_rules | `(tactic| walk_at "NOWALK") => `(tactic| first | (with_reducible show wpAny _ _ (binaryOp _ (Value.str _ _) (Value.str _ _)) _ _ _) | fail)
/-- _law_back at words shorter than k -/
def BackOk (w : World) (p : Program) (loose : List Str) (mg mb : Str → Option Value) (d : Addr) (c : List (Str × Int)) (k : Nat) : Prop :=
  ∀ (dp un : Nat) (fr : Option (List Env)) (gd : Option (List Code)) (s : Shared) (Q E : Value → Shared → Prop) (l : List Nat) (t : Tok), Here w p loose mg mb s.heap → dp + 50 + k < 1000 → StrTab PW w s.heap d (kdpD c) → WordOk l → l.length < k →
    (∀ u, inf u l = true → kdpHas c (st u) = true) → Ret s Q (fun v _ => ∃ t, v = .int (backV (fun u => kdpLook c (st u) 0) k l) t) → wpAny (model PW w) (au dp un fr gd) (call (.ref 267) [.ref d, sv l t]) Q E s
theorem back_step {w : World} {p : Program} {loose : List Str} {mg mb : Str → Option Value} {d : Addr} {c : List (Str × Int)} {k : Nat} (ih : BackOk w p loose mg mb d c k) : BackOk w p loose mg mb d c (k + 1) := by
  intro dp un fr gd s Q E l t H hd hT hl hlk hc ret
  have hrl : recursionLimit = 1000 := rfl
  have hl5 := hl.2
  have hsz : (st l).length ≤ sizeLine := by rw [st_len]; exact Nat.le_trans hl5 (by decide)
  k_dflt (refine' enterC (binds := [((PySem.Str.ofString "sums"), .ref d), ((PySem.Str.ofString "word"), sv l t)]) (Here.X (by assumption)) (Here.T (by assumption)) ?k6 ?k7 ?k8 ?k9 ?kB ?kD ?_ ?c2 ?c3 ?c4; (case k6 => k_is); (case k7 => k_is); (case k8 => (dsimp only; omega)); (case k9 => exact BindsTo.of_eq rfl); (case kB => exact rfl); (case kD => decide +kernel); (case c2 => exact rfl); (case c3 => exact rfl); (case c4 => exact rfl))
  intro L' h' tk' cells' F' N' Y' X' T'
  k_cells Y'
  (try simp only [List.cons_append, List.nil_append] at N')
  (try dsimp only)
  (show wpAny _ _ _ _ _ _)
  k_fold
  walk_at "STEPSW"
  refine' ell_none ?h1 ?h2 (by decide +kernel) ?_
  case h1 => walk_at "HERE"
  case h2 => walk_at "ROOM"
  intro v9 h9 tk9 ext9 pv9
  (with_reducible rename Fr _ _ _ _ => kF)
  (with_reducible rename News _ _ _ _ => kN)
  replace kF := frExt kF ext9
  replace kN := newsExt kN ext9
  (try dsimp only at kF kN)
  subst pv9
  by_cases hn : l = []
  · have e0 : ((Str.ofString "").1.toList == (st l).1.toList) = true := by subst hn; rfl
    rw [e0]
    walk_at "STEPSW"
    (with_reducible rename Fr _ _ _ _ => kF)
    (with_reducible rename News _ _ _ _ => kN)
    refine kdp_item (k := st l) (hT.keep kF.keep) (hc l (inf_self l)) ?_
    intro t1
    walk_at "STEPSW"
    walk_at "DONE"
    subst hn
    exact ⟨_, rfl⟩
  have e0 : ((Str.ofString "").1.toList == (st l).1.toList) = false := by
    rw [beq_eq_false_iff_ne]; intro e; exact hn (e.symm.trans (show (Str.ofString "").1.toList = [] by decide))
  have hl0 : 0 < l.length := List.length_pos_iff.mpr hn
  rw [e0]
  walk_at "STEPSW"
  (with_reducible rename Fr _ _ _ _ => kF)
  (with_reducible rename News _ _ _ _ => kN)
  refine kdp_item (k := st l) (hT.keep kF.keep) (hc _ (inf_self l)) ?_
  intro t9
  dsimp only
  walk_at "STEPSW"
  (with_reducible rename Fr _ _ _ _ => kF)
  (with_reducible rename News _ _ _ _ => kN)
  refine slice_strN_sn (s := ⟨_, _, _, _, _⟩) kF kN ?_ (hsz := hsz)
  clear kF kN
  intro h8 t8 k8 F8 N8
  rw [slice_1n hn]
  dsimp only
  walk_at "STEPSW"
  (with_reducible rename Fr _ _ _ _ => kF)
  (with_reducible rename News _ _ _ _ => kN)
  refine kdp_item (k := st (l.drop 1)) (hT.keep kF.keep) (hc _ (inf_drop l 1)) ?_
  intro t9
  dsimp only
  walk_at "STEPSW"
  refine' sub_spec ?h1 ?h2 ?_
  case h1 => walk_at "HERE"
  case h2 => walk_at "ROOM"
  intro v9 h9 tk9 ext9 pv9
  (with_reducible rename Fr _ _ _ _ => kF)
  (with_reducible rename News _ _ _ _ => kN)
  replace kF := frExt kF ext9
  replace kN := newsExt kN ext9
  (try dsimp only at kF kN)
  obtain ⟨t2, rfl⟩ := pv9
  walk_at "STEPSW"
  (with_reducible rename Fr _ _ _ _ => kF)
  (with_reducible rename News _ _ _ _ => kN)
  refine slice_strN_ns (s := ⟨_, _, _, _, _⟩) kF kN ?_ (hsz := hsz)
  clear kF kN
  intro h8 t8 k8 F8 N8
  rw [slice_n1 hn]
  dsimp only
  walk_at "STEPSW"
  refine SBL.add (fun t9 k9 _ => ?_) (hsz := by walk_at "SHORT")
  dsimp only
  walk_at "STEPSW"
  (with_reducible rename Fr _ _ _ _ => kF)
  (with_reducible rename News _ _ _ _ => kN)
  refine slice_strN_sn (s := ⟨_, _, _, _, _⟩) kF kN ?_ (hsz := hsz)
  clear kF kN
  intro h8 t8 k8 F8 N8
  rw [slice_m1n hn]
  dsimp only
  walk_at "STEPSW"
  refine SBL.add (fun t9 k9 _ => ?_) (hsz := by walk_at "SHORT")
  dsimp only
  walk_at "STEPSW"
  obtain ⟨a, ea, ha⟩ := first_one hn
  obtain ⟨b, eb, hb⟩ := last_one hn
  refine' ell_some (a := st (l.take 1)) (b := st (l.drop (l.length - 1))) (mid := []) ?h1 ?h2 (dots_two (hl.take _) (hl.drop _)).1 (dots_two (hl.take _) (hl.drop _)).2 ?h3 (by show 0 < 1000; omega) (by walk_at "SHORT") (by walk_at "SHORT") ?_
  case h3 =>
    intro z hz
    simp only [List.mem_cons, List.nil_append, List.not_mem_nil, or_false] at hz
    rcases hz with rfl | rfl <;> walk_at "SHORT"
  case h1 => walk_at "HERE"
  case h2 => walk_at "ROOM"
  intro v9 h9 tk9 ext9 pv9
  (with_reducible rename Fr _ _ _ _ => kF)
  (with_reducible rename News _ _ _ _ => kN)
  replace kF := frExt kF ext9
  replace kN := newsExt kN ext9
  (try dsimp only at kF kN)
  subst pv9
  rw [ea, eb, ell_two ha hb]
  by_cases h2 : l.length < 2
  · rw [show decide (2 ≤ l.length) = false by rw [decide_eq_false_iff_not]; omega]
    walk_at "STEPSW"
    walk_at "DONE"
    refine ⟨t2, ?_⟩
    unfold backV
    rw [if_neg (by omega), if_pos h2]
  rw [show decide (2 ≤ l.length) = true by rw [decide_eq_true_eq]; omega]
  walk_at "STEPSW"
  have hl2 : 2 ≤ l.length := by omega
  (with_reducible rename Fr _ _ _ _ => kF)
  (with_reducible rename News _ _ _ _ => kN)
  refine slice_strN_ns (s := ⟨_, _, _, _, _⟩) kF kN ?_ (hsz := hsz)
  clear kF kN
  intro h8 t8 k8 F8 N8
  rw [slice_nm1 hn]
  dsimp only
  walk_at "STEPSW"
  (with_reducible rename Fr _ _ _ _ => kF)
  (with_reducible rename News _ _ _ _ => kN)
  refine kdp_item (k := st l.dropLast) (hT.keep kF.keep) (hc _ (inf_dropLast l)) ?_
  intro t9
  dsimp only
  walk_at "STEPSW"
  refine' sub_spec ?h1 ?h2 ?_
  case h1 => walk_at "HERE"
  case h2 => walk_at "ROOM"
  intro v9 h9 tk9 ext9 pv9
  (with_reducible rename Fr _ _ _ _ => kF)
  (with_reducible rename News _ _ _ _ => kN)
  replace kF := frExt kF ext9
  replace kN := newsExt kN ext9
  (try dsimp only at kF kN)
  obtain ⟨t3, rfl⟩ := pv9
  walk_at "STEPSW"
  (with_reducible rename Fr _ _ _ _ => kF)
  (with_reducible rename News _ _ _ _ => kN)
  refine slice_strN_ss (s := ⟨_, _, _, _, _⟩) kF kN ?_ (hsz := hsz)
  clear kF kN
  intro h8 t8 k8 F8 N8
  rw [slice_1m1 hl2]
  dsimp only
  walk_at "STEPSW"
  (with_reducible rename Fr _ _ _ _ => kF)
  (with_reducible rename News _ _ _ _ => kN)
  refine kdp_item (k := st (l.drop 1).dropLast) (hT.keep kF.keep) (hc _ (inf_trans (inf_dropLast _) (inf_drop l 1))) ?_
  intro t9
  dsimp only
  walk_at "STEPSW"
  refine' add_spec ?h1 ?h2 ?_
  case h1 => walk_at "HERE"
  case h2 => walk_at "ROOM"
  intro v9 h9 tk9 ext9 pv9
  (with_reducible rename Fr _ _ _ _ => kF)
  (with_reducible rename News _ _ _ _ => kN)
  replace kF := frExt kF ext9
  replace kN := newsExt kN ext9
  (try dsimp only at kF kN)
  obtain ⟨t4, rfl⟩ := pv9
  walk_at "STEPSW"
  refine compA s.heap rfl rfl (by decide) rfl (by decide) rfl rfl ?_
  walk_at "STEPSW"
  refine SBL.len (x := st l) (by show ((l.toArray.size : Nat) : Int) < _; rw [List.size_toArray]; omega) ?_
  walk_at "STEPSW"
  (with_reducible rename Fr _ _ _ _ => kF)
  (with_reducible rename News _ _ _ _ => kN)
  rw [st_len]
  refine range3_rows kF kN (by decide) ?_ (.inl (PyProof.noPylong_small (by omega)))
  intro h6 tk6 tr6 ur6 vr6 hrg6 F6 N6 _
  dsimp only at hrg6 F6 N6 ⊢
  clear kF kN
  have hsm : Builtin.Range.small ((l.length : Int) - 1) (-1) (-1) = true := (rangeDown ⟨l.length, by omega⟩ hl0).1
  have hrn : Builtin.Range.rangeSize ((l.length : Int) - 1) (-1) (-1) = (l.length : Int) := (rangeDown ⟨l.length, by omega⟩ hl0).2
  refine compRange l.length (fun i y oo => oo = none ∧ y = .bool (suf (l.take (l.length - 1 - i)) l)) hrg6 hsm hrn rfl (fun _ _ => rfl) F6 N6 (Nat.le_trans hl5 (by decide)) ?elt ?done
  case elt =>
    intro g i ti C m₃ h tk own hi hLC g0 gn F N
    clear F6 N6 hrg6
    have X9 := H.X.keeps g0
    have T9 := H.T.keeps g0
    have H9 : Here w p loose mg mb g := ⟨X9, T9⟩
    have hcl := gn _ (.head _)
    dsimp only at hcl
    refine wpAny_assign_Name ?_
    walk_at "STEPSW"
    have hw2 : ∀ m, WordOk (l.take m) := fun m => hl.take m
    (with_reducible rename Fr _ _ _ _ => kF)
    (with_reducible rename News _ _ _ _ => kN)
    refine slice_strN_ns (s := ⟨_, _, _, _, _⟩) kF kN ?_ (hsz := hsz)
    clear kF kN
    intro h8 t8 k8 F8 N8
    rw [slice_nk (l.length - 1 - i) (by omega) (by omega)]
    dsimp only
    walk_at "STEPSW"
    refine SBL.add (fun t9 k9 _ => ?_) (hsz := by walk_at "SHORT")
    dsimp only
    walk_at "STEPSW"
    refine' ell_some (a := st []) (b := st (l.take (l.length - 1 - i))) (mid := []) ?h1 ?h2 (dots_front (hw2 _)).1 (dots_front (hw2 _)).2 ?h3 (by show 0 < 1000; omega) (by walk_at "SHORT") (by walk_at "SHORT") ?_
    case h3 =>
      intro z hz
      simp only [List.mem_cons, List.nil_append, List.not_mem_nil, or_false] at hz
      rcases hz with rfl | rfl
      · show 0 < 1000; omega
      · walk_at "SHORT"
    case h1 => walk_at "HERE"
    case h2 => walk_at "ROOM"
    intro v9 h9 tk9 ext9 pv9
    (with_reducible rename Fr _ _ _ _ => kF)
    (with_reducible rename News _ _ _ _ => kN)
    replace kF := frExt kF ext9
    replace kN := newsExt kN ext9
    (try dsimp only at kF kN)
    subst pv9
    rw [ell_suf]
    (try walk_at "STEPSW")
    (with_reducible rename Fr _ _ _ _ => kF)
    (with_reducible rename News _ _ _ _ => kN)
    exact ⟨_, _, _, none, rfl, kF, kN, ⟨rfl, rfl⟩, trivial⟩
  case done =>
    intro D h7 tk7 ys els F7 N7 he hD hlen hy
    clear F6 N6 hrg6
    have hys : ys = (endsL l).map Value.bool := by
      refine List.ext_getElem? fun j => ?_
      by_cases hj : j < l.length
      · rw [List.getElem?_map, endsL_get hj]
        have hj2 : j < ys.length := by omega
        obtain ⟨_, ⟨_, e⟩, _⟩ := hy j _ (List.getElem?_eq_getElem hj2)
        rw [List.getElem?_eq_getElem hj2, e]; rfl
      · have e1 : (endsL l).length = l.length := by unfold endsL; rw [List.length_map, List.length_range]
        rw [List.getElem?_eq_none (by omega), List.getElem?_eq_none (by rw [List.length_map]; omega)]
    clear hy he hD
    subst hys
    walk_at "STEPSW"
    refine SBL.len (x := st l) (by show ((l.toArray.size : Nat) : Int) < _; rw [List.size_toArray]; omega) ?_
    walk_at "STEPSW"
    (with_reducible rename Fr _ _ _ _ => kF)
    (with_reducible rename News _ _ _ _ => kN)
    refine' indexOf_spec (bs := endsL l) (nn := l.length) ?h1 ?h2 ?h3 (ends_true hn) ?_
    case h1 => walk_at "HERE"
    case h2 => walk_at "ROOM"
    case h3 => rw [← hlen]; exact (kN (D, LCg.lst ((endsL l).map Value.bool)) (by simp)).1
    intro v9 h9 tk9 ext9 pv9
    (with_reducible rename Fr _ _ _ _ => kF)
    (with_reducible rename News _ _ _ _ => kN)
    replace kF := frExt kF ext9
    replace kN := newsExt kN ext9
    (try dsimp only at kF kN)
    obtain ⟨t5, rfl⟩ := pv9
    walk_at "STEPSW"
    have hidx : (endsL l).idxOf true < l.length := by
      obtain ⟨a, _⟩ := List.getElem?_eq_some_iff.mp (idx_spec (ends_true hn)).1
      have e : (endsL l).length = l.length := by unfold endsL; rw [List.length_map, List.length_range]
      omega
    have hfw : WordOk (frontOf l) := hl.take _
    have hfl : (frontOf l).length < l.length := by unfold frontOf; rw [List.length_take]; omega
    have hfr : Txt.slice (st l) none (some (((st l).length : Int) - 1 - (((endsL l).idxOf true : Nat) : Int))) = st (frontOf l) := slice_nk _ (by rw [st_len]; omega) (by omega)
    (with_reducible rename Fr _ _ _ _ => kF)
    (with_reducible rename News _ _ _ _ => kN)
    refine slice_strN_ns (s := ⟨_, _, _, _, _⟩) kF kN ?_ (hsz := hsz)
    clear kF kN
    intro h8 t8 k8 F8 N8
    rw [hfr]
    dsimp only
    walk_at "STEPSW"
    (with_reducible rename Fr _ _ _ _ => kF)
    (with_reducible rename News _ _ _ _ => kN)
    refine slice_strN_ns (s := ⟨_, _, _, _, _⟩) kF kN ?_ (hsz := hsz)
    clear kF kN
    intro h8 t8 k8 F8 N8
    rw [slice_n1 hn]
    dsimp only
    walk_at "STEPSW"
    refine SBL.add (fun t9 k9 _ => ?_) (hsz := by walk_at "SHORT")
    dsimp only
    walk_at "STEPSW"
    refine SBL.add (fun t9 k9 _ => ?_) (hsz := by walk_at "SHORT")
    dsimp only
    walk_at "STEPSW"
    refine SBL.add (fun t9 k9 _ => ?_) (hsz := by walk_at "SHORT")
    dsimp only
    walk_at "STEPSW"
    (with_reducible rename Fr _ _ _ _ => kF)
    (with_reducible rename News _ _ _ _ => kN)
    refine slice_strN_sn (s := ⟨_, _, _, _, _⟩) kF kN ?_ (hsz := hsz)
    clear kF kN
    intro h8 t8 k8 F8 N8
    rw [slice_m1n hn]
    dsimp only
    walk_at "STEPSW"
    refine SBL.add (fun t9 k9 _ => ?_) (hsz := by walk_at "SHORT")
    dsimp only
    walk_at "STEPSW"
    refine' ell_some (a := st (l.take 1)) (b := st (l.drop (l.length - 1))) (mid := [st (frontOf l)]) ?h1 ?h2 (dots_mid (hl.take _) hfw (hl.drop _)).1 (dots_mid (hl.take _) hfw (hl.drop _)).2 ?h3 (by show 1 < 1000; omega) (by walk_at "SHORT") (by walk_at "SHORT") ?_
    case h3 =>
      intro z hz
      simp only [List.mem_cons, List.cons_append, List.nil_append, List.not_mem_nil, or_false] at hz
      rcases hz with rfl | rfl | rfl <;> walk_at "SHORT"
    case h1 => walk_at "HERE"
    case h2 => walk_at "ROOM"
    intro v9 h9 tk9 ext9 pv9
    (with_reducible rename Fr _ _ _ _ => kF)
    (with_reducible rename News _ _ _ _ => kN)
    replace kF := frExt kF ext9
    replace kN := newsExt kN ext9
    (try dsimp only at kF kN)
    subst pv9
    rw [ea, eb, ell_mid ha hb hl2]
    have hsm : ∀ b : Bool, inf (frontOf l) (l.drop 1).dropLast = b → backV (fun u => kdpLook c (st u) 0) (k + 1) l = (kdpLook c (st l) 0 - kdpLook c (st (l.drop 1)) 0 - kdpLook c (st l.dropLast) 0 + kdpLook c (st (l.drop 1).dropLast) 0) + (if b = true then 0 else backV (fun u => kdpLook c (st u) 0) k (frontOf l)) := by
      intro b hb
      rw [show backV (fun u => kdpLook c (st u) 0) (k + 1) l = _ from rfl]
      unfold backV
      rw [if_neg (by omega), if_neg h2, hb]
      cases b
      · rw [if_neg (by decide), if_neg (by decide)]
        cases k <;> rfl
      · rw [if_pos rfl, if_pos rfl, Int.add_zero]
    cases hin : inf (frontOf l) (l.drop 1).dropLast
    · walk_at "STEPSW"
      (with_reducible rename Fr _ _ _ _ => kF)
      (with_reducible rename News _ _ _ _ => kN)
      refine' ih _ _ _ _ _ _ _ (frontOf l) _ ?h1 ?h2 ?h3 hfw ?h5 (fun u hu => hc u (inf_trans hu (inf_take l _))) ?_
      case h1 => walk_at "HERE"
      case h2 => walk_at "ROOM"
      case h3 => exact hT.keep kF.keep
      case h5 => omega
      intro v9 h9 tk9 ext9 pv9
      (with_reducible rename Fr _ _ _ _ => kF)
      (with_reducible rename News _ _ _ _ => kN)
      replace kF := frExt kF ext9
      replace kN := newsExt kN ext9
      (try dsimp only at kF kN)
      obtain ⟨t6, rfl⟩ := pv9
      walk_at "STEPSW"
      refine' add_spec ?h1 ?h2 ?_
      case h1 => walk_at "HERE"
      case h2 => walk_at "ROOM"
      intro v9 h9 tk9 ext9 pv9
      (with_reducible rename Fr _ _ _ _ => kF)
      (with_reducible rename News _ _ _ _ => kN)
      replace kF := frExt kF ext9
      replace kN := newsExt kN ext9
      (try dsimp only at kF kN)
      obtain ⟨t7, rfl⟩ := pv9
      walk_at "STEPSW"
      walk_at "DONE"
      exact ⟨t7, by rw [hsm false hin, if_neg (by decide)]⟩
    · walk_at "STEPSW"
      walk_at "DONE"
      exact ⟨t4, by rw [hsm true hin, if_pos rfl, Int.add_zero]⟩
theorem law_back_spec {w : World} {p : Program} {loose : List Str} {mg mb : Str → Option Value} {d : Addr} {c : List (Str × Int)} : ∀ k, BackOk w p loose mg mb d c k
  | 0 => fun _ _ _ _ _ _ _ _ _ _ _ _ _ h => absurd h (Nat.not_lt_zero _)
  | k + 1 => back_step (law_back_spec k)
structure DSt where
  due : List (List Nat × Int)
  firsts : List Int
  wts : List (Str × Int)
def cut (tx : List Nat) (a b : Nat) : List Nat := (tx.drop a).take (b - a)
def nameD (a : Nat) (x : List Nat) : List Nat := if a % 2 = 0 then x else lowL x
def wtOf (f : Nat → Nat) (a b : Nat) : Int := ((f a * f (b - 1) + b : Nat) : Int)
def dueStep (tx : List Nat) (f : Nat → Nat) (a b : Nat) (z : DSt) : DSt :=
  if kdpHas z.wts (st (cut tx a b)) = true then ⟨z.due, z.firsts ++ [kdpLook z.wts (st (cut tx a b)) 0], z.wts⟩
  else ⟨z.due ++ [(nameD a (cut tx a b), kdpLook (kdpPut z.wts (st (cut tx a b)) (wtOf f a b)) (st (cut tx a b)) 0)], z.firsts ++ [kdpLook (kdpPut z.wts (st (cut tx a b)) (wtOf f a b)) (st (cut tx a b)) 0], kdpPut z.wts (st (cut tx a b)) (wtOf f a b)⟩
def dueIn (tx : List Nat) (f : Nat → Nat) (a : Nat) (z : DSt) (j : Nat) : DSt := (List.range j).foldl (fun z k => dueStep tx f a (a + 1 + k) z) z
def dueOut (tx : List Nat) (f : Nat → Nat) (z : DSt) (i : Nat) : DSt := (List.range i).foldl (fun z a => dueIn tx f a z (5 - a)) z
def due0 (f : Nat → Nat) : DSt := ⟨[([], ((f 0 : Nat) : Int))], [((f 0 : Nat) : Int)], []⟩
def dueEnd (tx : List Nat) (f : Nat → Nat) : DSt := dueOut tx f (due0 f) 5
theorem dueIn_succ (tx : List Nat) (f : Nat → Nat) (a : Nat) (z : DSt) (j : Nat) : dueIn tx f a z (j + 1) = dueStep tx f a (a + 1 + j) (dueIn tx f a z j) := by simp [dueIn, List.range_succ]
theorem dueOut_succ (tx : List Nat) (f : Nat → Nat) (z : DSt) (i : Nat) : dueOut tx f z (i + 1) = dueIn tx f i (dueOut tx f z i) (5 - i) := by simp [dueOut, List.range_succ]
theorem dueStep_old {tx : List Nat} {f : Nat → Nat} {a b : Nat} {z : DSt} (h : kdpHas z.wts (st (cut tx a b)) = true) : dueStep tx f a b z = ⟨z.due, z.firsts ++ [kdpLook z.wts (st (cut tx a b)) 0], z.wts⟩ := if_pos h
theorem dueStep_new {tx : List Nat} {f : Nat → Nat} {a b : Nat} {z : DSt} (h : kdpHas z.wts (st (cut tx a b)) = false) :
    dueStep tx f a b z = ⟨z.due ++ [(nameD a (cut tx a b), kdpLook (kdpPut z.wts (st (cut tx a b)) (wtOf f a b)) (st (cut tx a b)) 0)], z.firsts ++ [kdpLook (kdpPut z.wts (st (cut tx a b)) (wtOf f a b)) (st (cut tx a b)) 0], kdpPut z.wts (st (cut tx a b)) (wtOf f a b)⟩ := if_neg (by rw [h]; decide)
/-- pairs of a name and a number, held in the ledger -/
inductive DueIn (nx : List (Addr × Obj)) : List Value → List (List Nat × Int) → Prop
  | nil : DueIn nx [] []
  | cons {a : Addr} {k : Nat} {t u : Tok} {x : List Nat} {y : Int} {vs : List Value} {rows : List (List Nat × Int)} : (a, tupObj [sv x t, .int y u] k) ∈ nx → DueIn nx vs rows → DueIn nx (.ref a :: vs) ((x, y) :: rows)
theorem DueIn.sub {nx nx' : List (Addr × Obj)} (h : ∀ q ∈ nx, q ∈ nx') : ∀ {vs rows}, DueIn nx vs rows → DueIn nx' vs rows
  | _, _, .nil => .nil
  | _, _, .cons e r => .cons (h _ e) (r.sub h)
theorem DueIn.snoc {nx : List (Addr × Obj)} {a : Addr} {k : Nat} {t u : Tok} {x : List Nat} {y : Int} (e : (a, tupObj [sv x t, .int y u] k) ∈ nx) : ∀ {vs rows}, DueIn nx vs rows → DueIn nx (vs ++ [.ref a]) (rows ++ [(x, y)])
  | _, _, .nil => .cons e .nil
  | _, _, .cons e' r => .cons e' (DueIn.snoc e r)
theorem DueIn.len {nx : List (Addr × Obj)} : ∀ {vs rows}, DueIn nx vs rows → vs.length = rows.length
  | _, _, .nil => rfl
  | _, _, .cons _ r => congrArg (· + 1) r.len
def pairD (p : List Nat × Int) : PyData := .tuple [.str (st p.1), .int p.2]
theorem DueIn.reads {nx : List (Addr × Obj)} {h : Heap} (k : ∀ q ∈ nx, h.get? q.1 = some q.2) : ∀ {vs rows}, DueIn nx vs rows → ∃ as, ReadsAll h vs (rows.map pairD) as
  | _, _, .nil => ⟨_, .nil⟩
  | _, _, .cons (x := x) (y := y) e r => let ⟨_, q⟩ := r.reads k; ⟨_, .cons (.tuple (k _ e) rfl rfl (.cons (.str (st x) _) (.cons (.int y _) .nil))) q⟩
inductive IntAll : List Value → List Int → Prop
  | nil : IntAll [] []
  | cons {x : Int} {t : Tok} {vs : List Value} {ls : List Int} : IntAll vs ls → IntAll (.int x t :: vs) (x :: ls)
theorem IntAll.snoc {x : Int} {t : Tok} : ∀ {vs ls}, IntAll vs ls → IntAll (vs ++ [.int x t]) (ls ++ [x])
  | _, _, .nil => .cons .nil
  | _, _, .cons r => .cons r.snoc
theorem IntAll.reads {h : Heap} : ∀ {vs ls}, IntAll vs ls → ∃ as, ReadsAll h vs (ls.map PyData.int) as
  | _, _, .nil => ⟨_, .nil⟩
  | _, _, .cons (x := x) r => let ⟨_, q⟩ := r.reads (h := h); ⟨_, .cons (.int x _) q⟩
/-- the ledger while the due pairs are laid -/
def DueLed (w : World) (dd ff ww : Addr) (z : DSt) (k : Nat) (nx : List (Addr × Obj)) : Prop :=
  ∃ vs n gs m o kvs rest, nx = (ww, o) :: (ff, listObj gs m) :: (dd, listObj vs n) :: rest ∧ o.IsDictOf (PySem.strKind PW w) kvs ∧ PyProof.V.FlatPairs PyData.str kvs (kdpD z.wts) ∧ DueIn rest vs z.due ∧ IntAll gs z.firsts ∧
    vs.length ≤ k ∧ gs.length ≤ k ∧ z.wts.length ≤ k ∧ ∀ q ∈ rest, q.1 ≠ ww ∧ q.1 ≠ ff ∧ q.1 ≠ dd
theorem DueLed.mono {w : World} {dd ff ww : Addr} {z : DSt} {k k' : Nat} {nx : List (Addr × Obj)} (hk : k ≤ k') : DueLed w dd ff ww z k nx → DueLed w dd ff ww z k' nx := fun ⟨vs, n, gs, m, o, kvs, rest, e, h1, h2, h3, h4, h5, h6, h7, h8⟩ =>
  ⟨vs, n, gs, m, o, kvs, rest, e, h1, h2, h3, h4, Nat.le_trans h5 hk, Nat.le_trans h6 hk, Nat.le_trans h7 hk, h8⟩
theorem slice_ij {l : List Nat} (i j : Nat) (h : i ≤ j) (h2 : j ≤ l.length) {x y : Int} (ex : x = i) (ey : y = j) : Txt.slice (st l) (some x) (some y) = st ((l.drop i).take (j - i)) := by
  subst ex; subst ey
  exact slice_st i j (by unfold clipZ; dsimp only; rw [if_neg (by omega)]; omega) (by unfold clipZ; dsimp only; rw [if_neg (by omega)]; omega) h h2
theorem cut_len {tx : List Nat} (a b : Nat) : (cut tx a b).length ≤ tx.length := by unfold cut; rw [List.length_take, List.length_drop]; omega
theorem allLt_at {D : Nat} {l : List (Addr × Obj)} (h : AllLt D l) : ∀ p ∈ l, @LT.lt Nat _ p.1 D := by
  induction l with
  | nil => intro p hp; cases hp
  | cons q r ih =>
    intro p hp
    cases hp with
    | head => exact h.1
    | tail _ hp => exact ih h.2 p hp
theorem allLt_ne {D : Addr} {l : List (Addr × Obj)} (h : AllLt D l) (p : Addr × Obj) (hp : p ∈ l) : p.1 ≠ D := by
  have z := allLt_at h p hp
  intro e
  rw [e] at z
  exact Nat.lt_irrefl _ z
theorem fmod20 {i : Nat} : (i : Int).fmod 2 = 0 ↔ i % 2 = 0 := by
  rw [Int.fmod_eq_emod_of_nonneg _ (by decide)]; omega
theorem ltName {a b : Addr} (_ : @LT.lt Nat _ a b) : ∃ g, g = b := ⟨_, rfl⟩
section
variable {h₀ h : Heap} {L tp dd ff ww : Addr} {T O1 O2 O3 : Obj} {R S X : List (Addr × Obj)}
theorem led_a (N : News h₀ L h ((tp, T) :: (ww, O1) :: (ff, O2) :: (dd, O3) :: (R ++ S))) : News h₀ L h ((dd, O3) :: (ww, O1) :: (ff, O2) :: (((tp, T) :: R) ++ S)) := news_sub (fun q hq => by simp only [List.mem_cons, List.mem_append] at hq ⊢; rcases hq with h | h | h | (h | h) | h <;> simp only [h, true_or, or_true]) N
theorem due_end {own ow : List (Addr × Obj)} (N : News h₀ L h ((ww, O1) :: (ff, O2) :: (dd, O3) :: (R ++ (own ++ ow)))) : News h₀ L h ((((ww, O1) :: (ff, O2) :: (dd, O3) :: R) ++ own) ++ ow) := by rw [List.append_assoc]; exact N
theorem led_b (N : News h₀ L h ((dd, O3) :: (ww, O1) :: (ff, O2) :: X)) : News h₀ L h ((ff, O2) :: (dd, O3) :: (ww, O1) :: X) := news_sub (fun q hq => by simp only [List.mem_cons] at hq ⊢; rcases hq with h | h | h | h <;> simp only [h, true_or, or_true]) N
theorem led_c (N : News h₀ L h ((ff, O2) :: (dd, O3) :: (ww, O1) :: X)) : News h₀ L h ((ww, O1) :: (ff, O2) :: (dd, O3) :: X) := news_sub (fun q hq => by simp only [List.mem_cons] at hq ⊢; rcases hq with h | h | h | h <;> simp only [h, true_or, or_true]) N
theorem led_d (N : News h₀ L h ((ww, O1) :: (ff, O2) :: (dd, O3) :: X)) : News h₀ L h ((ff, O2) :: (dd, O3) :: (ww, O1) :: X) := news_sub (fun q hq => by simp only [List.mem_cons] at hq ⊢; rcases hq with h | h | h | h <;> simp only [h, true_or, or_true]) N
theorem ownOff_due {ow : List (Addr × Obj)} (h1 : ∀ q ∈ ow, q.1 ≠ ww ∧ q.1 ≠ ff ∧ q.1 ≠ dd) (h2 : ∀ q ∈ ow, ∀ b ∈ X, q.1 ≠ b.1) : OwnOff ow (((ww, O1) :: (ff, O2) :: (dd, O3) :: X).map (·.1)) := by
  intro q hq b hb
  obtain ⟨y, hy, rfl⟩ := List.mem_map.mp hb
  simp only [List.mem_cons] at hy
  rcases hy with rfl | rfl | rfl | hy
  · exact (h1 q hq).1
  · exact (h1 q hq).2.1
  · exact (h1 q hq).2.2
  · exact h2 q hq y hy
end
local macro_rules | `(tactic| walk_at "NOWALK") => `(tactic| first | (with_reducible show wpAny _ _ (compareOp CmpOp.NotIn (Value.str _ _) (Value.ref _)) _ _ _) | (with_reducible show wpAny _ _ (binaryOp _ (Value.ref _) (Value.ref _)) _ _ _) | fail)
section
variable {w : World} {p : Program} {loose : List Str} {mg mb : Str → Option Value} {dp un : Nat} {fr : Option (List Env)} {gd : Option (List Code)} {s : Shared} {Q E : Value → Shared → Prop}
theorem law_due_spec {fa : Addr} {fv : List Value} {fn : Nat} {tx : List Nat} {f : Nat → Nat} {t : Tok} (H : Here w p loose mg mb s.heap) (hd : dp + 90 < 1000)
    (htx : NameOk tx) (hlx : tx.length = 5) (hfa : s.heap.get? fa = some (listObj fv fn)) (hfv : ∀ i, i < 5 → ∃ t, fv[i]? = some (.int (f i : Nat) t)) (hf : ∀ i, f i ≤ 19)
    (ret : Ret s Q (fun v h => ∃ as, Reads h v (.tuple [.list ((dueEnd tx f).due.map pairD), .list (((dueEnd tx f).firsts ++ [((f 0 : Nat) : Int)]).map PyData.int)]) as)) : wpAny (model PW w) (au dp un fr gd) (call (.ref 274) [.str ⟨tx.toArray⟩ t, .ref fa]) Q E s := by
  have hrl : recursionLimit = 1000 := rfl
  k_dflt (refine' enterP (binds := [((PySem.Str.ofString "text"), .str ⟨tx.toArray⟩ t), ((PySem.Str.ofString "figures"), .ref fa)]) (mm := fun y_ => List.lookup y_ [((PySem.Str.ofString "figures"), .ref fa), ((PySem.Str.ofString "text"), .str ⟨tx.toArray⟩ t)]) (Here.X (by assumption)) (Here.T (by assumption)) ?k6 ?k7 ?k8 ?k9 ?kB ?hm ?_ ?c2 ?c3 ?c4 ?c5; (case k6 => k_is); (case k7 => k_is); (case k8 => (dsimp only; omega)); (case k9 => exact BindsTo.of_eq rfl); (case kB => exact locs rfl); (case hm => exact rfl); (case c5 => decide); (case c2 => exact rfl); (case c3 => exact rfl); (case c4 => exact rfl))
  intro L' h' F' N' X' T'
  k_fold
  walk_at "STEPSW"
  obtain ⟨t0, hf0⟩ := hfv 0 (by decide)
  (with_reducible rename Fr _ _ _ _ => kF)
  (with_reducible rename News _ _ _ _ => kN)
  refine item_listL (l := fv) ⟨_, kF.keep _ _ hfa, rfl, _, rfl⟩ (by decide) (by decide) hf0 ?_
  walk_at "STEPSW"
  (with_reducible rename Fr _ _ _ _ => kF)
  (with_reducible rename News _ _ _ _ => kN)
  refine item_listL (l := fv) ⟨_, kF.keep _ _ hfa, rfl, _, rfl⟩ (by decide) (by decide) hf0 ?_
  walk_at "STEPSW"
  refine forG s.heap ?_
  walk_at "STEPSW"
  (with_reducible rename Fr _ _ _ _ => kF)
  (with_reducible rename News _ _ _ _ => kN)
  refine range1_rows kF kN ?_
  intro h5 tk5 tr ur vr hrg F5 N5 _
  dsimp only at hrg F5 N5 ⊢
  clear kF kN
  obtain ⟨dd, hdd⟩ := frRef F5 (Str.ofString "due") rfl
  obtain ⟨ff, hff⟩ := frRef F5 (Str.ofString "firsts") rfl
  obtain ⟨ww, hww⟩ := frRef F5 (Str.ofString "weights") rfl
  subst hdd hff hww
  (with_reducible rename @LT.lt Nat _ _ dd => q4)
  (with_reducible rename @LT.lt Nat _ dd ff ∧ _ => q5)
  (with_reducible rename @LT.lt Nat _ ff ww ∧ _ => q6)
  (with_reducible rename Obj.IsDictOf (PySem.strKind PW w) _ _ => hdo)
  (with_reducible rename PyProof.V.FlatPairs PyData.str [] [] => hfl)
  (with_reducible rename (_ == sysModules) = false => lo)
  have d1 : ff ≠ ww := fun e => Nat.lt_irrefl _ (e ▸ q6.1)
  have d2 : dd ≠ ww := fun e => Nat.lt_irrefl _ (e ▸ q6.2.1)
  have d3 : dd ≠ ff := fun e => Nat.lt_irrefl _ (e ▸ q5.1)
  refine loopRange 5 (fun i m nx => DueLed w dd ff ww (dueOut tx f (due0 f) i) (1 + 5 * i) nx ∧ ∃ (u : Str → Option Value), m = loc [("text", .str ⟨tx.toArray⟩ t), ("figures", .ref fa), ("due", .ref dd), ("firsts", .ref ff), ("weights", .ref ww)] u) hrg (by decide) (by decide) rfl (fun _ _ => rfl) (fr_loc F5 [("text", .str ⟨tx.toArray⟩ t), ("figures", .ref fa), ("due", .ref dd), ("firsts", .ref ff), ("weights", .ref ww)] ⟨rfl, rfl, rfl, rfl, rfl, trivial⟩) N5 ?init ?step ?done
  case init =>
    refine ⟨⟨_, _, _, _, _, _, _, rfl, hdo, hfl, .cons (.head _) .nil, .cons .nil, by simp, by simp, by simp [due0, dueOut], ?_⟩, _, rfl⟩
    intro q hq
    rw [List.mem_singleton.mp hq]
    exact ⟨fun e => Nat.lt_irrefl _ (e ▸ q6.2.2), fun e => Nat.lt_irrefl _ (e ▸ q5.2), fun e => Nat.lt_irrefl _ (e ▸ q4)⟩
  case step =>
    clear hdo hfl q4 q5 q6
    rintro i ti m₁ nx h tk own hi ⟨⟨vs, n, gs, gn, o, kvs, rest, rfl, hdo, hfl, hdu, hgs, hvz, hgz, hwz, hrest⟩, u, rfl⟩ hoff F N
    rw [show (0 : Int) + (i : Int) = (i : Int) by omega]
    clear N5 F5
    refine wpAny_assign_Name ?_
    dsimp only [List.cons_append] at N
    walk_at "STEPSW"
    refine forG s.heap ?_
    walk_at "STEPSW"
    (with_reducible rename Fr _ _ _ _ => kF)
    (with_reducible rename News _ _ _ _ => kN)
    refine range2_rows kF kN ?_
    intro h6 tk6 tr6 ur6 vr6 hrg6 F6 N6 _
    dsimp only at hrg6 F6 N6 ⊢
    clear kF kN
    refine loopRange (5 - i) (fun j m nx => (∃ nx0, nx = nx0 ++ own ∧ OwnOff own (nx0.map (·.1)) ∧ DueLed w dd ff ww (dueIn tx f i (dueOut tx f (due0 f) i) j) (1 + 5 * i + j) nx0) ∧ ∃ (t1 : Tok) (u : Str → Option Value), m = loc [("text", .str ⟨tx.toArray⟩ t), ("figures", .ref fa), ("due", .ref dd), ("firsts", .ref ff), ("weights", .ref ww), ("start", .int (i : Int) t1)] u) hrg6 ?sm ?sz rfl (fun _ _ => rfl) (fr_loc F6 [("text", .str ⟨tx.toArray⟩ t), ("figures", .ref fa), ("due", .ref dd), ("firsts", .ref ff), ("weights", .ref ww), ("start", .int (i : Int) ti)] ⟨rfl, rfl, rfl, rfl, rfl, rfl, trivial⟩) N6 ?init2 ?step2 ?done2
    case sm => exact small_one (by omega) (by omega) (by decide) (by decide)
    case sz => rw [rangeSize_nat]; omega
    case init2 => exact ⟨⟨_, rfl, hoff, vs, n, gs, gn, o, kvs, rest, rfl, hdo, hfl, hdu, hgs, hvz, hgz, hwz, hrest⟩, _, _, rfl⟩
    case step2 =>
      clear N6 F6 F N hdo hfl hdu hgs hvz hgz hwz hrest hoff hrg6
      rintro j tj m₁ nx h7 tk7 ow hj ⟨⟨nx0, rfl, hoff, vs, n, gs, gn, o, kvs, rest, rfl, hdo, hfl, hdu, hgs, hvz, hgz, hwz, hrest⟩, t3, u, rfl⟩ hoff7 F N
      rw [show (i : Int) + 1 + (j : Int) = ((i + 1 + j : Nat) : Int) by omega]
      refine wpAny_assign_Name ?_
      dsimp only [List.cons_append] at N
      rw [List.append_assoc] at N
      have offA : ∀ q ∈ own ++ ow, q.1 ≠ ww ∧ q.1 ≠ ff ∧ q.1 ≠ dd := by
        intro q hq
        rcases List.mem_append.mp hq with hq | hq
        · exact ⟨hoff q hq ww (by simp), hoff q hq ff (by simp), hoff q hq dd (by simp)⟩
        · exact ⟨hoff7 q hq ww (by simp), hoff7 q hq ff (by simp), hoff7 q hq dd (by simp)⟩
      have offR : ∀ q ∈ own ++ ow, ∀ b ∈ rest, q.1 ≠ b.1 := by
        intro q hq b hb
        rcases List.mem_append.mp hq with hq | hq
        · exact hoff q hq b.1 (List.mem_map.mpr ⟨b, by simp [hb], rfl⟩)
        · exact hoff7 q hq b.1 (List.mem_map.mpr ⟨b, by simp [hb], rfl⟩)
      have hcl := cut_len (tx := tx) i (i + 1 + j)
      have hnx : NameOk (cut tx i (i + 1 + j)) := ⟨fun c hc => htx.1 c (List.mem_of_mem_drop (List.mem_of_mem_take hc)), Nat.le_trans hcl htx.2⟩
      walk_at "STEPSW"
      (with_reducible rename Fr _ _ _ _ => kF)
      (with_reducible rename News _ _ _ _ => kN)
      refine slice_strN_ss (s := ⟨_, _, _, _, _⟩) kF kN ?_ (hsz := by rw [st_len, hlx]; decide)
      clear kF kN
      intro h8 t8 k8 F8 N8
      rw [show Txt.slice (st tx) (some (i : Int)) (some ((i + 1 + j : Nat) : Int)) = st (cut tx i (i + 1 + j)) from slice_ij i (i + 1 + j) (by omega) (by omega) rfl rfl]
      dsimp only
      walk_at "STEPSW"
      (with_reducible rename Fr _ _ _ _ => kF)
      (with_reducible rename News _ _ _ _ => kN)
      refine kdp_notin (TabAt.ofObj lo (kN _ (.head _)).1 hdo hfl) ?_
      cases hk : kdpHas (dueIn tx f i (dueOut tx f (due0 f) i) j).wts (st (cut tx i (i + 1 + j)))
      · walk_at "STEPSW"
        obtain ⟨tf, hfi⟩ := hfv i hi
        (with_reducible rename Fr _ _ _ _ => kF)
        (with_reducible rename News _ _ _ _ => kN)
        refine item_listL (l := fv) ⟨_, kF.keep _ _ hfa, rfl, _, rfl⟩ (by omega) (by omega) (by simpa using hfi) ?_
        walk_at "STEPSW"
        (with_reducible rename Fr _ _ _ _ => kF)
        (with_reducible rename News _ _ _ _ => kN)
        obtain ⟨tg, hfj⟩ := hfv (i + 1 + j - 1) (by omega)
        refine item_listL (l := fv) ⟨_, kF.keep _ _ hfa, rfl, _, rfl⟩ (by omega) (by omega) (by rw [show (((i + 1 + j : Nat) : Int) - 1).toNat = i + 1 + j - 1 by omega]; exact hfj) ?_
        walk_at "STEPSW"
        have hf9 := hf i
        refine mul_int (hm := IntMulOk.of_left (intBits_le_64 (by omega) (by omega))) ?_
        walk_at "STEPSW"
        rw [val_eq]
        (with_reducible rename Fr _ _ _ _ => kF)
        (with_reducible rename News _ _ _ _ => kN)
        refine kdp_setItem (k := st (cut tx i (i + 1 + j))) kF kN (.head ?u) hdo hfl ?z ?_
        case u =>
          intro q hq
          simp only [List.mem_cons, List.mem_append] at hq
          rcases hq with rfl | rfl | hq | hq
          · exact d1
          · exact d2
          · exact (hrest q hq).1
          · exact (offA q (List.mem_append.mpr hq)).1
        case z => omega
        intro h9 o9 kvs9 F9 N9 hdo9 hfl9
        clear kF kN
        (try dsimp only at F9 N9)
        have hk9 : kdpHas (kdpPut (dueIn tx f i (dueOut tx f (due0 f) i) j).wts (st (cut tx i (i + 1 + j))) ((f i * f (i + 1 + j - 1) + (i + 1 + j) : Nat) : Int)) (st (cut tx i (i + 1 + j))) = true := by simp [kdpHas_put]
        walk_at "STEPSW"
        · have hp : nameD i (cut tx i (i + 1 + j)) = cut tx i (i + 1 + j) := if_pos (fmod20.mp (by assumption))
          (with_reducible rename Fr _ _ _ _ => kF)
          (with_reducible rename News _ _ _ _ => kN)
          refine kdp_item (k := st (cut tx i (i + 1 + j))) (TabAt.ofObj lo (kN _ (.head _)).1 hdo9 hfl9) hk9 ?_
          intro t9
          dsimp only
          walk_at "STEPSW"
          (with_reducible rename Fr _ _ _ _ => kF)
          (with_reducible rename News _ _ _ _ => kN)
          (with_reducible rename @LT.lt Nat _ ww _ ∧ _ => q7)
          obtain ⟨q1, q2, q3, qL⟩ := q7
          have qn := allLt_ne qL
          obtain ⟨tp, htp⟩ := ltName q1
          subst htp
          have e1 : ww ≠ tp := fun e => Nat.lt_irrefl _ (e ▸ q1)
          have e2 : ff ≠ tp := fun e => Nat.lt_irrefl _ (e ▸ q2)
          have e3 : dd ≠ tp := fun e => Nat.lt_irrefl _ (e ▸ q3)
          clear q1 q2 q3 qL
          replace kN := led_a kN
          have offX : ∀ (TT : Obj) (q : Addr × Obj), q ∈ ((tp, TT) :: rest) ++ (own ++ ow) → q.1 ≠ ww ∧ q.1 ≠ ff ∧ q.1 ≠ dd := by
            intro TT q hq
            rcases List.mem_append.mp hq with hq | hq
            · rcases List.mem_cons.mp hq with rfl | hq
              · exact ⟨e1.symm, e2.symm, e3.symm⟩
              · exact hrest q hq
            · exact offA q hq
          refine' append_K kF kN (Upd.head ?uu) ?_ ?zz
          case uu =>
            intro q hq
            rcases List.mem_cons.mp hq with rfl | hq
            · exact d2.symm
            rcases List.mem_cons.mp hq with rfl | hq
            · exact d3.symm
            exact (offX _ q hq).2.2
          case zz => (show vs.toArray.size ≤ 2 ^ 24); rw [List.size_toArray]; omega
          clear kF kN
          intro h10 F10 N10
          (try dsimp only at F10 N10)
          (try dsimp only)
          rw [List.push_toArray] at N10
          walk_at "STEPSW"
          (with_reducible rename Fr _ _ _ _ => kF)
          (with_reducible rename News _ _ _ _ => kN)
          refine kdp_item (k := st (cut tx i (i + 1 + j))) (TabAt.ofObj lo (kN _ (.tail _ (.head _))).1 hdo9 hfl9) hk9 ?_
          intro t10
          dsimp only
          replace kN := led_b kN
          walk_at "STEPSW"
          (with_reducible rename Fr _ _ _ _ => kF)
          (with_reducible rename News _ _ _ _ => kN)
          refine' append_K kF kN (Upd.head ?uu) ?_ ?zz
          case uu =>
            intro q hq
            rcases List.mem_cons.mp hq with rfl | hq
            · exact d3
            rcases List.mem_cons.mp hq with rfl | hq
            · exact d1.symm
            exact (offX _ q hq).2.1
          case zz => (show gs.toArray.size ≤ 2 ^ 24); rw [List.size_toArray]; omega
          clear kF kN
          intro h11 F11 N11
          (try dsimp only at F11 N11)
          (try dsimp only)
          walk_at "STEPSW"
          (with_reducible rename Fr _ _ _ _ => kF)
          (with_reducible rename News _ _ _ _ => kN)
          rw [List.push_toArray] at kN
          replace kN := led_c kN
          have of1 : ∀ (TT : Obj) (q : Addr × Obj), q ∈ ow → ∀ b ∈ ((tp, TT) :: rest) ++ own, q.1 ≠ b.1 := by
            intro TT q hq b hb
            rcases List.mem_append.mp hb with hb | hb
            · rcases List.mem_cons.mp hb with rfl | hb
              · exact qn q (by simp [hq])
              · exact offR q (List.mem_append.mpr (.inr hq)) b hb
            · exact hoff7 q hq b.1 (List.mem_map.mpr ⟨b, by simp [hb], rfl⟩)
          have of2 : ∀ (TT : Obj) (q : Addr × Obj), q ∈ own → ∀ b ∈ (tp, TT) :: rest, q.1 ≠ b.1 := by
            intro TT q hq b hb
            rcases List.mem_cons.mp hb with rfl | hb
            · exact qn q (by simp [hq])
            · exact offR q (List.mem_append.mpr (.inl hq)) b hb
          have hz := dueStep_new (f := f) hk
          rw [show nameD i (cut tx i (i + 1 + j)) = cut tx i (i + 1 + j) from hp] at hz
          refine ⟨_, _, _, _, rfl, fr_loc kF [("text", .str ⟨tx.toArray⟩ t), ("figures", .ref fa), ("due", .ref dd), ("firsts", .ref ff), ("weights", .ref ww), ("start", .int (i : Int) t3)] ⟨rfl, rfl, rfl, rfl, rfl, rfl, trivial⟩, due_end kN, ownOff_due (fun q hq => offA q (List.mem_append.mpr (.inr hq))) (of1 _), ⟨_, rfl, ownOff_due (fun q hq => offA q (List.mem_append.mpr (.inl hq))) (of2 _), ?_⟩, t3, _, rfl⟩
          rw [dueIn_succ, hz]
          refine ⟨_, _, _, _, o9, kvs9, _, rfl, hdo9, hfl9, DueIn.snoc (k := 0) (.head _) (hdu.sub fun q hq => .tail _ hq), hgs.snoc, by rw [List.length_append, List.length_singleton]; omega, by rw [List.length_append, List.length_singleton]; omega, Nat.le_trans (kdpPut_len _ _ _) (by omega), fun q hq => offX _ q (List.mem_append.mpr (.inl hq))⟩
        · have hp : nameD i (cut tx i (i + 1 + j)) = lowL (cut tx i (i + 1 + j)) := if_neg (fun e => absurd (fmod20.mpr e) (by assumption))
          (with_reducible rename Fr _ _ _ _ => kF)
          (with_reducible rename News _ _ _ _ => kN)
          refine kdp_item (k := st (cut tx i (i + 1 + j))) (TabAt.ofObj lo (kN _ (.head _)).1 hdo9 hfl9) hk9 ?_
          intro t9
          dsimp only
          walk_at "STEPSW"
          (with_reducible rename Fr _ _ _ _ => kF)
          (with_reducible rename News _ _ _ _ => kN)
          (with_reducible rename @LT.lt Nat _ ww _ ∧ _ => q7)
          obtain ⟨q1, q2, q3, qL⟩ := q7
          have qn := allLt_ne qL
          obtain ⟨tp, htp⟩ := ltName q1
          subst htp
          have e1 : ww ≠ tp := fun e => Nat.lt_irrefl _ (e ▸ q1)
          have e2 : ff ≠ tp := fun e => Nat.lt_irrefl _ (e ▸ q2)
          have e3 : dd ≠ tp := fun e => Nat.lt_irrefl _ (e ▸ q3)
          clear q1 q2 q3 qL
          replace kN := led_a kN
          have offX : ∀ (TT : Obj) (q : Addr × Obj), q ∈ ((tp, TT) :: rest) ++ (own ++ ow) → q.1 ≠ ww ∧ q.1 ≠ ff ∧ q.1 ≠ dd := by
            intro TT q hq
            rcases List.mem_append.mp hq with hq | hq
            · rcases List.mem_cons.mp hq with rfl | hq
              · exact ⟨e1.symm, e2.symm, e3.symm⟩
              · exact hrest q hq
            · exact offA q hq
          refine' append_K kF kN (Upd.head ?uu) ?_ ?zz
          case uu =>
            intro q hq
            rcases List.mem_cons.mp hq with rfl | hq
            · exact d2.symm
            rcases List.mem_cons.mp hq with rfl | hq
            · exact d3.symm
            exact (offX _ q hq).2.2
          case zz => (show vs.toArray.size ≤ 2 ^ 24); rw [List.size_toArray]; omega
          clear kF kN
          intro h10 F10 N10
          (try dsimp only at F10 N10)
          (try dsimp only)
          rw [List.push_toArray] at N10
          walk_at "STEPSW"
          (with_reducible rename Fr _ _ _ _ => kF)
          (with_reducible rename News _ _ _ _ => kN)
          refine kdp_item (k := st (cut tx i (i + 1 + j))) (TabAt.ofObj lo (kN _ (.tail _ (.head _))).1 hdo9 hfl9) hk9 ?_
          intro t10
          dsimp only
          replace kN := led_b kN
          walk_at "STEPSW"
          (with_reducible rename Fr _ _ _ _ => kF)
          (with_reducible rename News _ _ _ _ => kN)
          refine' append_K kF kN (Upd.head ?uu) ?_ ?zz
          case uu =>
            intro q hq
            rcases List.mem_cons.mp hq with rfl | hq
            · exact d3
            rcases List.mem_cons.mp hq with rfl | hq
            · exact d1.symm
            exact (offX _ q hq).2.1
          case zz => (show gs.toArray.size ≤ 2 ^ 24); rw [List.size_toArray]; omega
          clear kF kN
          intro h11 F11 N11
          (try dsimp only at F11 N11)
          (try dsimp only)
          walk_at "STEPSW"
          (with_reducible rename Fr _ _ _ _ => kF)
          (with_reducible rename News _ _ _ _ => kN)
          rw [List.push_toArray] at kN
          replace kN := led_c kN
          have of1 : ∀ (TT : Obj) (q : Addr × Obj), q ∈ ow → ∀ b ∈ ((tp, TT) :: rest) ++ own, q.1 ≠ b.1 := by
            intro TT q hq b hb
            rcases List.mem_append.mp hb with hb | hb
            · rcases List.mem_cons.mp hb with rfl | hb
              · exact qn q (by simp [hq])
              · exact offR q (List.mem_append.mpr (.inr hq)) b hb
            · exact hoff7 q hq b.1 (List.mem_map.mpr ⟨b, by simp [hb], rfl⟩)
          have of2 : ∀ (TT : Obj) (q : Addr × Obj), q ∈ own → ∀ b ∈ (tp, TT) :: rest, q.1 ≠ b.1 := by
            intro TT q hq b hb
            rcases List.mem_cons.mp hb with rfl | hb
            · exact qn q (by simp [hq])
            · exact offR q (List.mem_append.mpr (.inl hq)) b hb
          have hz := dueStep_new (f := f) hk
          rw [show nameD i (cut tx i (i + 1 + j)) = lowL (cut tx i (i + 1 + j)) from hp] at hz
          refine ⟨_, _, _, _, rfl, fr_loc kF [("text", .str ⟨tx.toArray⟩ t), ("figures", .ref fa), ("due", .ref dd), ("firsts", .ref ff), ("weights", .ref ww), ("start", .int (i : Int) t3)] ⟨rfl, rfl, rfl, rfl, rfl, rfl, trivial⟩, due_end kN, ownOff_due (fun q hq => offA q (List.mem_append.mpr (.inr hq))) (of1 _), ⟨_, rfl, ownOff_due (fun q hq => offA q (List.mem_append.mpr (.inl hq))) (of2 _), ?_⟩, t3, _, rfl⟩
          rw [dueIn_succ, hz]
          refine ⟨_, _, _, _, o9, kvs9, _, rfl, hdo9, hfl9, DueIn.snoc (k := 0) (.head _) (hdu.sub fun q hq => .tail _ hq), hgs.snoc, by rw [List.length_append, List.length_singleton]; omega, by rw [List.length_append, List.length_singleton]; omega, Nat.le_trans (kdpPut_len _ _ _) (by omega), fun q hq => offX _ q (List.mem_append.mpr (.inl hq))⟩
      · walk_at "STEPSW"
        (with_reducible rename Fr _ _ _ _ => kF)
        (with_reducible rename News _ _ _ _ => kN)
        refine kdp_item (k := st (cut tx i (i + 1 + j))) (TabAt.ofObj lo (kN _ (.head _)).1 hdo hfl) hk ?_
        intro t10
        dsimp only
        walk_at "STEPSW"
        (with_reducible rename Fr _ _ _ _ => kF)
        (with_reducible rename News _ _ _ _ => kN)
        replace kN := led_d kN
        have offX : ∀ (q : Addr × Obj), q ∈ rest ++ (own ++ ow) → q.1 ≠ ww ∧ q.1 ≠ ff ∧ q.1 ≠ dd := by
          intro q hq
          rcases List.mem_append.mp hq with hq | hq
          · exact hrest q hq
          · exact offA q hq
        (with_reducible rename Fr _ _ _ _ => kF)
        (with_reducible rename News _ _ _ _ => kN)
        refine' append_K kF kN (Upd.head ?uu) ?_ ?zz
        case uu =>
          intro q hq
          rcases List.mem_cons.mp hq with rfl | hq
          · exact d3
          rcases List.mem_cons.mp hq with rfl | hq
          · exact d1.symm
          exact (offX q hq).2.1
        case zz => (show gs.toArray.size ≤ 2 ^ 24); rw [List.size_toArray]; omega
        clear kF kN
        intro h11 F11 N11
        (try dsimp only at F11 N11)
        (try dsimp only)
        walk_at "STEPSW"
        (with_reducible rename Fr _ _ _ _ => kF)
        (with_reducible rename News _ _ _ _ => kN)
        rw [List.push_toArray] at kN
        replace kN := led_c kN
        have of1 : ∀ (q : Addr × Obj), q ∈ ow → ∀ b ∈ rest ++ own, q.1 ≠ b.1 := by
          intro q hq b hb
          rcases List.mem_append.mp hb with hb | hb
          · exact offR q (List.mem_append.mpr (.inr hq)) b hb
          · exact hoff7 q hq b.1 (List.mem_map.mpr ⟨b, by simp [hb], rfl⟩)
        have hz := dueStep_old (f := f) hk
        refine ⟨_, _, _, _, rfl, fr_loc kF [("text", .str ⟨tx.toArray⟩ t), ("figures", .ref fa), ("due", .ref dd), ("firsts", .ref ff), ("weights", .ref ww), ("start", .int (i : Int) t3)] ⟨rfl, rfl, rfl, rfl, rfl, rfl, trivial⟩, due_end kN, ownOff_due (fun q hq => offA q (List.mem_append.mpr (.inr hq))) of1, ⟨_, rfl, ownOff_due (fun q hq => offA q (List.mem_append.mpr (.inl hq))) (fun q hq => offR q (List.mem_append.mpr (.inl hq))), ?_⟩, t3, _, rfl⟩
        rw [dueIn_succ, hz]
        refine ⟨_, _, _, _, o, kvs, _, rfl, hdo, hfl, hdu, hgs.snoc, by omega, by rw [List.length_append, List.length_singleton]; omega, by dsimp only; omega, hrest⟩
    case done2 =>
      clear N6 F6 F N hdo hfl hdu hgs hvz hgz hwz hrest hoff hrg6
      rintro h7 tk7 m₁ nx F N ⟨⟨nx0, rfl, hoff, led⟩, t3, u, rfl⟩
      walk_at "STEPSW"
      (with_reducible rename Fr _ _ _ _ => kF)
      (with_reducible rename News _ _ _ _ => kN)
      exact ⟨_, _, _, nx0, rfl, fr_loc kF [("text", .str ⟨tx.toArray⟩ t), ("figures", .ref fa), ("due", .ref dd), ("firsts", .ref ff), ("weights", .ref ww)] ⟨rfl, rfl, rfl, rfl, rfl, trivial⟩, kN, hoff, by rw [dueOut_succ]; exact led.mono (by omega), _, rfl⟩
  case done =>
    clear N5 F5 hrg hdo hfl
    rintro h7 tk7 m₁ nx F N ⟨⟨vs, n, gs, gn, o, kvs, rest, rfl, hdo, hfl, hdu, hgs, hvz, hgz, hwz, hrest⟩, u, rfl⟩
    walk_at "STEPSW"
    (with_reducible rename Fr _ _ _ _ => kF)
    (with_reducible rename News _ _ _ _ => kN)
    refine item_listL (l := fv) ⟨_, kF.keep _ _ hfa, rfl, _, rfl⟩ (by decide) (by decide) hf0 ?_
    walk_at "STEPSW"
    (with_reducible rename Fr _ _ _ _ => kF)
    (with_reducible rename News _ _ _ _ => kN)
    refine add_lists (s := ⟨_, _, _, _, _⟩) (vs := gs) (ws := [.int ((f 0 : Nat) : Int) t0]) kF kN ⟨_, (kN (ff, listObj gs gn) (by simp)).1, rfl, _, rfl⟩ ⟨_, (kN _ (.head _)).1, rfl, _, rfl⟩ ?_ (by rw [sizeLine_eq]; show gs.length + 1 ≤ _; omega)
    intro h9 F9 N9
    clear kF kN
    dsimp only
    walk_at "STEPSW"
    walk_at "DONE"
    (with_reducible rename Fr _ _ _ _ => kF)
    (with_reducible rename News _ _ _ _ => kN)
    obtain ⟨as1, r1⟩ := hdu.reads (fun q hq => (kN q (by simp [hq])).1)
    obtain ⟨as2, r2⟩ := (hgs.snoc (x := ((f 0 : Nat) : Int)) (t := t0)).reads
    exact ⟨_, .tuple (kN _ (.head _)).1 rfl rfl (.cons (.list (kN (dd, listObj vs n) (by simp)).1 rfl rfl r1) (.cons (.list (kN _ (.tail _ (.head _))).1 rfl rfl r2) .nil))⟩
end
abbrev rowsT (tx : List Nat) (f : Nat → Nat) : List (List Nat × List Nat) := (tabEnd (rd tx 0) f).1
abbrev sumsT (tx : List Nat) (f : Nat → Nat) : List (Str × Int) := sumsOf (uRows (rowsT tx f)) (rowsT tx f).length
def toldT (tx : List Nat) (f : Nat → Nat) : List (List Nat × Int) := (rowsT tx f).map fun r => (r.1, backV (fun u => kdpLook (sumsT tx f) (st u) 0) 6 (upL r.1))
/-- the text cut by number and by place -/
theorem rd_shift : ∀ (y : List Nat) (n : Nat), rd y n = n * 16 ^ y.length + rd y 0
  | [], n => by simp [rd]
  | c :: y, n => by
    have e : ∀ m, rd (c :: y) m = rd y (m * 16 + (c - 65)) := fun m => rfl
    rw [e, e, rd_shift y (n * 16 + (c - 65)), rd_shift y (0 * 16 + (c - 65)), List.length_cons, Nat.pow_succ, Nat.add_mul, Nat.add_mul]
    have : n * 16 * 16 ^ y.length = n * (16 ^ y.length * 16) := by rw [Nat.mul_assoc, Nat.mul_comm 16]
    omega
def Big (c : Nat) : Prop := 65 < c ∧ c < 81
theorem apF_rd : ∀ (k : Nat) (l : List Nat), (∀ c ∈ l, Big c) → l.length ≤ k → apF k (rd l 0) = l
  | 0, l, _, h => by
    have : l = [] := List.length_eq_zero_iff.mp (Nat.le_zero.mp h)
    subst this; rfl
  | k + 1, l, hc, h => by
    rcases List.eq_nil_or_concat l with rfl | ⟨l', c, rfl⟩
    · exact apF_zero _
    · have hb := hc c (by simp)
      unfold Big at hb
      rw [List.concat_eq_append] at *
      rw [rd_snoc, apF_pos (by omega), show (rd l' 0 * 16 + (c - 65)) / 16 = rd l' 0 by omega, show 65 + (rd l' 0 * 16 + (c - 65)) % 16 = c by omega, apF_rd k l' (fun d hd => hc d (by simp [hd])) (by simp at h; omega)]
theorem rd_lt0 (l : List Nat) (h : ∀ c ∈ l, Big c) : rd l 0 < 16 ^ l.length := by
  have := rd_lt l 0 0 (fun c hc => ⟨Nat.le_of_lt (h c hc).1, (h c hc).2⟩) (by decide)
  simpa using this
theorem stretch_cut {tx : List Nat} {a b : Nat} (h : ∀ c ∈ tx, Big c) (hl : tx.length = 5) (hab : a < b) (hb : b ≤ 5) : apF 5 (stretchN (rd tx 0) a b) = cut tx a b := by
  have e1 : tx = (tx.take a ++ cut tx a b) ++ tx.drop b := by
    unfold cut
    have : tx.take a ++ (tx.drop a).take (b - a) = tx.take b := by
      rw [List.take_drop, show a + (b - a) = b by omega]
      conv => lhs; lhs; rw [show tx.take a = (tx.take b).take a by rw [List.take_take, Nat.min_eq_left (by omega)]]
      exact List.take_append_drop a _
    rw [this, List.take_append_drop]
  have hB : (cut tx a b).length = b - a := by unfold cut; rw [List.length_take, List.length_drop]; omega
  have hC : (tx.drop b).length = 5 - b := by rw [List.length_drop]; omega
  have hm : ∀ c ∈ cut tx a b, Big c := fun c hc => h c (List.mem_of_mem_drop (List.mem_of_mem_take hc))
  have lB := rd_lt0 _ hm
  have lC := rd_lt0 (tx.drop b) (fun c hc => h c (List.mem_of_mem_drop hc))
  rw [hB] at lB
  rw [hC] at lC
  have e2 : rd tx 0 = rd (tx.take a ++ cut tx a b) 0 * 16 ^ (5 - b) + rd (tx.drop b) 0 := by
    conv => lhs; rw [e1]
    rw [rd_append, rd_shift, hC]
  have e3 : rd (tx.take a ++ cut tx a b) 0 = rd (tx.take a) 0 * 16 ^ (b - a) + rd (cut tx a b) 0 := by rw [rd_append, rd_shift, hB]
  have p1 : 0 < 16 ^ (5 - b) := Nat.pow_pos (by decide)
  have e4 : stretchN (rd tx 0) a b = rd (cut tx a b) 0 := by
    unfold stretchN
    rw [e2, Nat.mul_comm, Nat.mul_add_div p1, Nat.div_eq_of_lt lC, Nat.add_zero, e3, Nat.mul_comm, Nat.mul_add_mod, Nat.mod_eq_of_lt lB]
  rw [e4, apF_rd 5 _ hm (by rw [hB]; omega)]
theorem name_cut {tx : List Nat} {a b : Nat} (h : ∀ c ∈ tx, Big c) (hl : tx.length = 5) (hab : a < b) (hb : b ≤ 5) : nameOf (rd tx 0) a b = nameD a (cut tx a b) := by
  unfold nameOf nameD
  rw [stretch_cut h hl hab hb]
  by_cases q : a % 2 = 1
  · rw [if_pos q, if_neg (by omega)]
  · rw [if_neg q, if_pos (by omega)]
/-- the stretches in turn: word, name, number -/
abbrev GSt : Type := List (List Nat × List Nat × Nat) × List Nat
def gStep (S : GSt) (x nm : List Nat) (v : Nat) : GSt := match S.1.find? (fun g => g.1 == x) with | some g => (S.1, S.2 ++ [g.2.2]) | none => (S.1 ++ [(x, nm, v)], S.2 ++ [v])
def toTab (f0 : Nat) (S : GSt) : TabSt := (([], apF 5 f0) :: S.1.map (fun g => (g.2.1, apF 5 g.2.2)), S.2.map (apF 5))
def toDue (f0 : Nat) (S : GSt) : DSt := ⟨([], (f0 : Int)) :: S.1.map (fun g => (g.2.1, (g.2.2 : Int))), S.2.map (fun (x : Nat) => (x : Int)), S.1.map (fun g => (st g.1, (g.2.2 : Int)))⟩
def Bcd (l : List Nat) : Prop := ∀ c ∈ l, c = 66 ∨ c = 67 ∨ c = 68
theorem low_low {l : List Nat} (h : Bcd l) : lowL (lowL l) = lowL l := by
  unfold lowL
  rw [List.map_map]
  refine List.map_congr_left fun c hc => ?_
  rcases h c hc with rfl | rfl | rfl <;> decide
theorem up_low {l : List Nat} (h : Bcd l) : upL (lowL l) = l := by
  unfold lowL upL
  rw [List.map_map]
  conv => rhs; rw [← List.map_id l]
  refine List.map_congr_left fun c hc => ?_
  rcases h c hc with rfl | rfl | rfl <;> decide
theorem up_self {l : List Nat} (h : Bcd l) : upL l = l := by
  unfold upL
  conv => rhs; rw [← List.map_id l]
  refine List.map_congr_left fun c hc => ?_
  rcases h c hc with rfl | rfl | rfl <;> decide
theorem low_inj {a b : List Nat} (ha : Bcd a) (hb : Bcd b) (e : lowL a = lowL b) : a = b := by rw [← up_low ha, e, up_low hb]
/-- a name of a word -/
def NameIs (w nm : List Nat) : Prop := nm = w ∨ nm = lowL w
theorem NameIs.low {w nm : List Nat} (h : NameIs w nm) (hw : Bcd w) : lowL nm = lowL w := by rcases h with rfl | rfl; rfl; exact low_low hw
theorem NameIs.up {w nm : List Nat} (h : NameIs w nm) (hw : Bcd w) : upL nm = w := by rcases h with rfl | rfl; exact up_self hw; exact up_low hw
structure GOk (tx : List Nat) (S : GSt) : Prop where
  all : ∀ g ∈ S.1, Bcd g.1 ∧ g.1 ≠ [] ∧ g.1.length ≤ 5 ∧ inf g.1 tx = true ∧ NameIs g.1 g.2.1 ∧ g.2.2 < 16 ^ 5
  nodup : (S.1.map (·.1)).Nodup
  nums : ∀ x ∈ S.2, x < 16 ^ 5
theorem find_word {x nm : List Nat} (hx : Bcd x) (hn : NameIs x nm) : ∀ (G : List (List Nat × List Nat × Nat)), (∀ g ∈ G, Bcd g.1 ∧ NameIs g.1 g.2.1) →
    (G.map fun g => (g.2.1, apF 5 g.2.2)).find? (fun r => lowL r.1 == lowL nm) = (G.find? fun g => g.1 == x).map fun g => (g.2.1, apF 5 g.2.2)
  | [], _ => rfl
  | g :: G, h => by
    have hg := h g (.head _)
    have e : (lowL g.2.1 == lowL nm) = (g.1 == x) := by
      rw [hg.2.low hg.1, hn.low hx, Bool.eq_iff_iff, beq_iff_eq, beq_iff_eq]
      exact ⟨fun q => low_inj hg.1 hx q, fun q => by rw [q]⟩
    rw [List.map_cons, List.find?_cons, List.find?_cons, e, find_word hx hn G fun q hq => h q (.tail _ hq)]
    cases g.1 == x <;> rfl
theorem low_nil {l : List Nat} : lowL l = [] ↔ l = [] := by unfold lowL; exact List.map_eq_nil_iff
theorem gTab {tx : List Nat} {S : GSt} {x nm : List Nat} {f0 v : Nat} (h : GOk tx S) (hx : Bcd x) (hne : x ≠ []) (hn : NameIs x nm) : offer (toTab f0 S) nm (apF 5 v) = toTab f0 (gStep S x nm v) := by
  have hg : hGet (toTab f0 S).1 nm = (S.1.find? fun g => g.1 == x).map fun g => (g.2.1, apF 5 g.2.2) := by
    unfold hGet toTab
    have e0 : (lowL ([] : List Nat) == lowL nm) = false := by
      rw [beq_eq_false_iff_ne, hn.low hx]; exact fun e => hne (low_nil.mp e.symm)
    rw [List.find?_cons, e0]
    exact find_word hx hn S.1 fun g hg => ⟨(h.all g hg).1, (h.all g hg).2.2.2.2.1⟩
  unfold offer hPut hAns gStep
  rw [hg]
  cases S.1.find? (fun g => g.1 == x) with
  | some g => simp [toTab]
  | none => simp [toTab]
theorem wts_has (x : List Nat) : ∀ (G : List (List Nat × List Nat × Nat)), kdpHas (G.map fun g => (st g.1, (g.2.2 : Int))) (st x) = (G.find? fun g => g.1 == x).isSome
  | [] => rfl
  | g :: G => by
    have ih := wts_has x G
    unfold kdpHas at ih ⊢
    rw [List.map_cons, List.any_cons, ih, List.find?_cons]
    have e : decide (st g.1 = st x) = (g.1 == x) := by
      rw [Bool.eq_iff_iff, decide_eq_true_eq, beq_iff_eq]
      constructor
      · intro q; injection q with q; exact List.toArray_inj q
      · intro q; rw [q]
    show (decide (st g.1 = st x) || _) = _
    rw [e]
    cases g.1 == x <;> simp
theorem st_eq {a b : List Nat} : decide (st a = st b) = (a == b) := by
  rw [Bool.eq_iff_iff, decide_eq_true_eq, beq_iff_eq]
  constructor
  · intro q; injection q with q; exact List.toArray_inj q
  · intro q; rw [q]
theorem wts_look (x : List Nat) (d : Int) : ∀ (G : List (List Nat × List Nat × Nat)), kdpLook (G.map fun g => (st g.1, (g.2.2 : Int))) (st x) d = ((G.find? fun g => g.1 == x).map fun g => (g.2.2 : Int)).getD d
  | [] => rfl
  | g :: G => by
    have ih := wts_look x d G
    unfold kdpLook at ih ⊢
    rw [List.map_cons, List.find?_cons, List.find?_cons]
    show (Option.map _ (match decide (st g.1 = st x) with | true => _ | false => _)).getD d = _
    rw [st_eq]
    cases g.1 == x
    · exact ih
    · rfl
theorem look_put {c : List (Str × Int)} {k : Str} {v d : Int} (h : kdpHas c k = false) : kdpPut c k v = c ++ [(k, v)] ∧ kdpLook (kdpPut c k v) k d = v := by
  have e : kdpPut c k v = c ++ [(k, v)] := by
    unfold kdpPut
    rw [if_neg]
    unfold kdpHas at h; rw [h]; decide
  refine ⟨e, ?_⟩
  rw [e]
  unfold kdpLook
  have hn : c.find? (fun p => decide (p.1 = k)) = none := by
    rw [List.find?_eq_none]
    intro p hp
    unfold kdpHas at h
    have := List.any_eq_false.mp h p hp
    exact this
  rw [List.find?_append, hn]
  simp
theorem gDue {tx : List Nat} {f : Nat → Nat} {a b f0 : Nat} {S : GSt} : dueStep tx f a b (toDue f0 S) = toDue f0 (gStep S (cut tx a b) (nameD a (cut tx a b)) (f a * f (b - 1) + b)) := by
  have hh : kdpHas (toDue f0 S).wts (st (cut tx a b)) = (S.1.find? fun g => g.1 == cut tx a b).isSome := wts_has _ S.1
  have hk : kdpLook (toDue f0 S).wts (st (cut tx a b)) 0 = ((S.1.find? fun g => g.1 == cut tx a b).map fun g => (g.2.2 : Int)).getD 0 := wts_look _ _ S.1
  cases e : S.1.find? (fun g => g.1 == cut tx a b) with
  | some g =>
    rw [e] at hh hk
    rw [dueStep_old (by rw [hh]; rfl), hk]
    simp [gStep, e, toDue]
  | none =>
    rw [e] at hh
    have hf : kdpHas (toDue f0 S).wts (st (cut tx a b)) = false := by rw [hh]; rfl
    obtain ⟨p1, p2⟩ := look_put (d := 0) (v := wtOf f a b) hf
    rw [dueStep_new hf, p2, p1]
    simp [gStep, e, toDue, wtOf]
theorem gOk {tx : List Nat} {S : GSt} {x nm : List Nat} {v : Nat} (h : GOk tx S) (h1 : Bcd x) (h2 : x ≠ []) (h3 : x.length ≤ 5) (h4 : inf x tx = true) (h5 : NameIs x nm) (h6 : v < 16 ^ 5) :
    GOk tx (gStep S x nm v) ∧ x ∈ (gStep S x nm v).1.map (·.1) ∧ ∀ w ∈ S.1.map (·.1), w ∈ (gStep S x nm v).1.map (·.1) := by
  unfold gStep
  cases e : S.1.find? (fun g => g.1 == x) with
  | some g =>
    have hm := List.mem_of_find?_eq_some e
    have hx : g.1 = x := by have := List.find?_some e; simpa using this
    refine ⟨⟨h.all, h.nodup, fun y hy => ?_⟩, List.mem_map.mpr ⟨g, hm, hx⟩, fun w hw => hw⟩
    rcases List.mem_append.mp hy with hy | hy
    · exact h.nums y hy
    · rw [List.mem_singleton.mp hy]; exact (h.all g hm).2.2.2.2.2
  | none =>
    have hno : x ∉ S.1.map (·.1) := fun hm => by
      obtain ⟨g, hg, hgx⟩ := List.mem_map.mp hm
      have := List.find?_eq_none.mp e g hg
      exact this (by simpa using hgx)
    refine ⟨⟨fun g hg => ?_, ?_, fun y hy => ?_⟩, by simp, fun w hw => by rw [List.map_append]; exact List.mem_append.mpr (.inl hw)⟩
    · rcases List.mem_append.mp hg with hg | hg
      · exact h.all g hg
      · rw [List.mem_singleton.mp hg]; exact ⟨h1, h2, h3, h4, h5, h6⟩
    · show (List.map _ (S.1 ++ [(x, nm, v)])).Nodup
      rw [List.map_append, List.nodup_append]
      refine ⟨h.nodup, by simp, fun a ha b hb => ?_⟩
      rw [show b = x by simpa using hb]
      exact fun q => hno (q ▸ ha)
    · rcases List.mem_append.mp hy with hy | hy
      · exact h.nums y hy
      · rw [List.mem_singleton.mp hy]; exact h6
def pairsL : List (Nat × Nat) := (List.range 5).flatMap fun a => (List.range (5 - a)).map fun k => (a, a + 1 + k)
theorem pairs_ok : ∀ ab ∈ pairsL, ab.1 < ab.2 ∧ ab.2 ≤ 5 := by decide
theorem pairs_mem {a b : Nat} (h1 : a < b) (h2 : b ≤ 5) : (a, b) ∈ pairsL := by
  unfold pairsL
  exact List.mem_flatMap.mpr ⟨a, List.mem_range.mpr (by omega), List.mem_map.mpr ⟨b - a - 1, List.mem_range.mpr (by omega), by rw [show a + 1 + (b - a - 1) = b by omega]⟩⟩
theorem tabOut_pairs (N : Nat) (f : Nat → Nat) (z : TabSt) : tabOut N f z 5 = pairsL.foldl (fun z ab => offer z (nameOf N ab.1 ab.2) (valOf f ab.1 ab.2)) z := by
  unfold tabOut tabIn pairsL
  rw [List.foldl_flatMap]
  simp only [List.foldl_map]
theorem dueOut_pairs (tx : List Nat) (f : Nat → Nat) (z : DSt) : dueOut tx f z 5 = pairsL.foldl (fun z ab => dueStep tx f ab.1 ab.2 z) z := by
  unfold dueOut dueIn pairsL
  rw [List.foldl_flatMap]
  simp only [List.foldl_map]
def gRun (tx : List Nat) (f : Nat → Nat) (L : List (Nat × Nat)) (S : GSt) : GSt := L.foldl (fun S ab => gStep S (cut tx ab.1 ab.2) (nameD ab.1 (cut tx ab.1 ab.2)) (f ab.1 * f (ab.2 - 1) + ab.2)) S
section
variable {tx : List Nat} {f : Nat → Nat} (htx : ∀ c ∈ tx, c = 66 ∨ c = 67 ∨ c = 68) (hl : tx.length = 5) (hf : ∀ i, f i ≤ 19)
include htx hl hf
theorem run_all : ∀ (L : List (Nat × Nat)) (S : GSt), (∀ ab ∈ L, ab.1 < ab.2 ∧ ab.2 ≤ 5) → GOk tx S →
    L.foldl (fun z ab => offer z (nameOf (rd tx 0) ab.1 ab.2) (valOf f ab.1 ab.2)) (toTab (f 0) S) = toTab (f 0) (gRun tx f L S) ∧
    L.foldl (fun z ab => dueStep tx f ab.1 ab.2 z) (toDue (f 0) S) = toDue (f 0) (gRun tx f L S) ∧ GOk tx (gRun tx f L S) ∧
    (∀ w ∈ S.1.map (·.1), w ∈ (gRun tx f L S).1.map (·.1)) ∧ ∀ ab ∈ L, cut tx ab.1 ab.2 ∈ (gRun tx f L S).1.map (·.1)
  | [], S, _, h => ⟨rfl, rfl, h, fun _ h => h, fun _ h => nomatch h⟩
  | ab :: L, S, hL, h => by
    obtain ⟨o1, o2⟩ := hL ab (.head _)
    have hb : Bcd (cut tx ab.1 ab.2) := fun c hc => htx c (List.mem_of_mem_drop (List.mem_of_mem_take hc))
    have hz : (cut tx ab.1 ab.2).length = ab.2 - ab.1 := by unfold cut; rw [List.length_take, List.length_drop]; omega
    have hne : cut tx ab.1 ab.2 ≠ [] := fun e => by rw [e] at hz; simp at hz; omega
    have hni : NameIs (cut tx ab.1 ab.2) (nameD ab.1 (cut tx ab.1 ab.2)) := by
      unfold nameD NameIs
      by_cases q : ab.1 % 2 = 0
      · rw [if_pos q]; exact .inl rfl
      · rw [if_neg q]; exact .inr rfl
    have hin : inf (cut tx ab.1 ab.2) tx = true := inf_trans (inf_take _ _) (inf_drop _ _)
    obtain ⟨g1, g2, g3⟩ := gOk h hb hne (by omega) hin hni (val_lt (hf ab.1) (hf (ab.2 - 1)) o2)
    obtain ⟨r1, r2, r3, r4, r5⟩ := run_all L _ (fun q hq => hL q (.tail _ hq)) g1
    have hbig : ∀ c ∈ tx, Big c := fun c hc => by have := htx c hc; unfold Big; omega
    refine ⟨?_, ?_, r3, fun w hw => r4 w (g3 w hw), fun q hq => ?_⟩
    · rw [List.foldl_cons, name_cut hbig hl o1 o2, show valOf f ab.1 ab.2 = apF 5 (f ab.1 * f (ab.2 - 1) + ab.2) from rfl, gTab h hb hne hni]
      exact r1
    · rw [List.foldl_cons, gDue]
      exact r2
    · rcases List.mem_cons.mp hq with rfl | hq
      · exact r4 _ g2
      · exact r5 q hq
theorem base_ok : GOk tx ([], [f 0]) := ⟨fun _ h => (nomatch h), List.nodup_nil, fun x hx => by rw [List.mem_singleton.mp hx]; have := hf 0; omega⟩
theorem run_tab : tabOut (rd tx 0) f (tab0 f) 5 = toTab (f 0) (gRun tx f pairsL ([], [f 0])) := by
  rw [tabOut_pairs, show tab0 f = toTab (f 0) ([], [f 0]) from rfl]
  exact (run_all htx hl hf pairsL _ pairs_ok (base_ok htx hl hf)).1
theorem run_due : dueEnd tx f = toDue (f 0) (gRun tx f pairsL ([], [f 0])) := by
  unfold dueEnd
  rw [dueOut_pairs, show due0 f = toDue (f 0) ([], [f 0]) from rfl]
  exact (run_all htx hl hf pairsL _ pairs_ok (base_ok htx hl hf)).2.1
theorem run_ok : GOk tx (gRun tx f pairsL ([], [f 0])) := (run_all htx hl hf pairsL _ pairs_ok (base_ok htx hl hf)).2.2.1
theorem run_mem {y : List Nat} (hy : y ≠ []) (h : inf y tx = true) : y ∈ (gRun tx f pairsL ([], [f 0])).1.map (·.1) := by
  obtain ⟨k, h1, h2⟩ := (inf_iff y tx).mp h
  have hz : 0 < y.length := List.length_pos_iff.mpr hy
  have := (run_all htx hl hf pairsL _ pairs_ok (base_ok htx hl hf)).2.2.2.2 (k, k + y.length) (pairs_mem (by omega) (by omega))
  have e : cut tx k (k + y.length) = y := by unfold cut; rw [Nat.add_sub_cancel_left]; exact h2
  rw [← e]; exact this
end
theorem cons2 {α : Type} {a b : α} {l m : List α} (h1 : a = b) (h2 : l = m) : a :: l = b :: m := by rw [h1, h2]
theorem app2 {α : Type} {a b l m : List α} (h1 : a = b) (h2 : l = m) : a ++ l = b ++ m := by rw [h1, h2]
theorem hget_first (v : List Nat) (R : List (List Nat × List Nat)) : hGet (([], v) :: R) [] = some ([], v) := by unfold hGet; rw [List.find?_cons]; rfl
theorem put_all (g : List Nat × Int → Int) : ∀ (us : List (List Nat × Int)) (acc : List (Str × Int)), (us.map (·.1)).Nodup → (∀ u ∈ us, kdpHas acc (st u.1) = false) → us.foldl (fun ps u => kdpPut ps (st u.1) (g u)) acc = acc ++ us.map fun u => (st u.1, g u)
  | [], acc, _, _ => by simp
  | u :: us, acc, hn, ha => by
    rw [List.map_cons, List.nodup_cons] at hn
    rw [List.foldl_cons, (look_put (d := 0) (ha u (.head _))).1, put_all g us _ hn.2 fun z hz => ?_, List.map_cons, List.append_assoc]; rfl
    unfold kdpHas
    rw [List.any_append, Bool.or_eq_false_iff]
    refine ⟨ha z (.tail _ hz), ?_⟩
    show (decide (st u.1 = st z.1) || false) = false
    rw [st_eq, Bool.or_false, beq_eq_false_iff_ne]
    exact fun e => hn.1 (e ▸ List.mem_map.mpr ⟨z, hz, rfl⟩)
theorem map_has (g : List Nat × Int → Int) (u : List Nat) : ∀ (us : List (List Nat × Int)), u ∈ us.map (·.1) → kdpHas (us.map fun u => (st u.1, g u)) (st u) = true
  | z :: us, h => by
    unfold kdpHas
    rw [List.map_cons, List.any_cons, Bool.or_eq_true]
    rw [List.map_cons] at h
    rcases List.mem_cons.mp h with rfl | h
    · left; simp
    · right; exact map_has g u us h
theorem map_look (g : List Nat × Int → Int) (u : List Nat) (x : Int) : ∀ (us : List (List Nat × Int)), (us.map (·.1)).Nodup → (u, x) ∈ us → kdpLook (us.map fun u => (st u.1, g u)) (st u) 0 = g (u, x)
  | z :: us, hn, h => by
    rw [List.map_cons, List.nodup_cons] at hn
    unfold kdpLook
    rw [List.map_cons, List.find?_cons]
    rcases List.mem_cons.mp h with rfl | h
    · show (Option.map _ (match decide (st u = st u) with | true => _ | false => _)).getD 0 = _
      rw [decide_eq_true rfl]; rfl
    · have hne : (z.1 == u) = false := by
        rw [beq_eq_false_iff_ne]
        exact fun e => hn.1 (e ▸ List.mem_map.mpr ⟨_, h, rfl⟩)
      show (Option.map _ (match decide (st z.1 = st u) with | true => _ | false => _)).getD 0 = _
      rw [st_eq, hne]
      exact map_look g u x us hn.2 h
theorem tot_sum (n : List Nat) : ∀ (us : List (List Nat × Int)) (x : Int), us.foldl (addIf n) x = x + sumBy us (fun u => if u.length < n.length ∧ inf u n = true then 1 else 0)
  | [], x => by simp [sumBy]
  | u :: us, x => by
    rw [List.foldl_cons, tot_sum n us, sumBy_cons]
    unfold addIf
    by_cases q : u.1.length < n.length ∧ inf u.1 n = true
    · rw [if_pos q, if_pos q]; omega
    · rw [if_neg q, if_neg q]; omega
theorem sum_none (n : List Nat) : ∀ (us : List (List Nat × Int)), n ∉ us.map (·.1) → sumBy us (fun u => d1 u n) = 0
  | [], _ => rfl
  | u :: us, h => by
    rw [List.map_cons, List.mem_cons, not_or] at h
    rw [sumBy_cons, sum_none n us h.2]
    unfold d1
    rw [if_neg fun e => h.1 e.symm]; omega
theorem sum_one (n : List Nat) (x : Int) : ∀ (us : List (List Nat × Int)), (us.map (·.1)).Nodup → (n, x) ∈ us → sumBy us (fun u => d1 u n) = x
  | u :: us, hn, h => by
    rw [List.map_cons, List.nodup_cons] at hn
    rw [sumBy_cons]
    rcases List.mem_cons.mp h with rfl | h
    · rw [sum_none n us hn.1]
      unfold d1
      rw [if_pos rfl]; omega
    · rw [sum_one n x us hn.2 h]
      unfold d1
      rw [if_neg fun (e : u.1 = n) => hn.1 (by rw [e]; exact List.mem_map.mpr ⟨(n, x), h, rfl⟩)]; omega
theorem part_sum (u n : List Nat) : i1 (inf u n) = (if u.length < n.length ∧ inf u n = true then 1 else 0) + d1 u n := by
  unfold i1 d1
  cases q : inf u n with
  | false =>
    rw [if_neg (by decide), if_neg (by simp), if_neg fun e => by rw [e, inf_self] at q; cases q]; rfl
  | true =>
    obtain ⟨k, h1, h2⟩ := (inf_iff u n).mp q
    rw [if_pos rfl]
    by_cases h : u.length < n.length
    · rw [if_pos ⟨h, rfl⟩, if_neg fun e => by rw [e] at h; omega]; rfl
    · have k0 : k = 0 := by omega
      subst k0
      have e : u = n := by rw [← h2, List.drop_zero, List.take_of_length_le (by omega)]
      rw [if_neg fun z => h z.1, if_pos e]; rfl
theorem tot_all {us : List (List Nat × Int)} {n : List Nat} {x : Int} (hn : (us.map (·.1)).Nodup) (h : (n, x) ∈ us) : totOf us n x = sumBy us fun u => i1 (inf u n) := by
  unfold totOf
  rw [tot_sum]
  have e := sumBy_add (fun u => if u.length < n.length ∧ inf u n = true then (1 : Int) else 0) (fun u => d1 u n) us
  rw [sum_one n x us hn h] at e
  rw [sumBy_congr fun u => part_sum u n, ← e]; omega
section
variable {tx : List Nat} {f : Nat → Nat} (htx : ∀ c ∈ tx, c = 66 ∨ c = 67 ∨ c = 68) (hl : tx.length = 5) (hf : ∀ i, f i ≤ 19)
include htx hl hf
theorem rows_eq : rowsT tx f = ([], apF 5 (f 0)) :: (gRun tx f pairsL ([], [f 0])).1.map fun g => (g.2.1, apF 5 g.2.2) := by
  unfold rowsT
  rw [tabEnd_rows, run_tab htx hl hf]
  unfold hPut toTab
  rw [hget_first]
theorem given_eq : (tabEnd (rd tx 0) f).2 = ((gRun tx f pairsL ([], [f 0])).2.map (apF 5)) ++ [apF 5 (f 0)] := by
  rw [tabEnd_given, run_tab htx hl hf]
  unfold hAns toTab
  rw [hget_first]
theorem uRows_eq : uRows (rowsT tx f) = ([], ((f 0 : Nat) : Int)) :: (gRun tx f pairsL ([], [f 0])).1.map fun g => (g.1, (g.2.2 : Int)) := by
  have h := run_ok htx hl hf
  have h0 := hf 0
  rw [rows_eq htx hl hf]
  unfold uRows
  rw [List.map_cons, List.map_map]
  refine cons2 ?_ ?_
  · refine congrArg (Prod.mk []) ?_
    show ((rd (apF 5 (f 0)) 0 : Nat) : Int) = _
    rw [rd_apF 5 _ (by omega)]
  · refine List.map_congr_left fun g hg => ?_
    have z := h.all g hg
    show (upL g.2.1, ((rd (apF 5 g.2.2) 0 : Nat) : Int)) = _
    rw [z.2.2.2.2.1.up z.1, rd_apF 5 _ z.2.2.2.2.2]
theorem uRows_nodup : ((uRows (rowsT tx f)).map (·.1)).Nodup := by
  have h := run_ok htx hl hf
  rw [uRows_eq htx hl hf, List.map_cons, List.nodup_cons, List.map_map]
  refine ⟨fun hm => ?_, h.nodup⟩
  obtain ⟨g, hg, e⟩ := List.mem_map.mp hm
  exact (h.all g hg).2.1 e
theorem uRows_mem {u : List Nat} (h : inf u tx = true) : u ∈ (uRows (rowsT tx f)).map (·.1) := by
  rw [uRows_eq htx hl hf, List.map_cons, List.map_map]
  by_cases q : u = []
  · rw [q]; exact .head _
  · exact .tail _ (run_mem htx hl hf q h)
theorem sumsT_eq : sumsT tx f = (uRows (rowsT tx f)).map fun u => (st u.1, totOf (uRows (rowsT tx f)) u.1 u.2) := by
  have hz : (rowsT tx f).length = (uRows (rowsT tx f)).length := by unfold uRows; rw [List.length_map]
  unfold sumsT sumsOf
  rw [hz, List.take_length, put_all (fun u => totOf (uRows (rowsT tx f)) u.1 u.2) _ _ (uRows_nodup htx hl hf) fun _ _ => rfl, List.nil_append]
theorem pure_rows : ∀ r ∈ rowsT tx f, NameOk r.1 ∧ WordOk (upL r.1) ∧ ValOk r.2 := by
  have h := run_ok htx hl hf
  intro r hr
  rw [rows_eq htx hl hf] at hr
  rcases List.mem_cons.mp hr with rfl | hr
  · exact ⟨⟨fun _ h => (nomatch h), Nat.zero_le _⟩, ⟨fun _ h => (nomatch h), Nat.zero_le _⟩, apF_val 5 _⟩
  · obtain ⟨g, hg, rfl⟩ := List.mem_map.mp hr
    have z := h.all g hg
    have hw : NameOk g.1 := ⟨fun c hc => by have := z.1 c hc; omega, Nat.le_trans z.2.2.1 (by decide)⟩
    refine ⟨?_, ?_, apF_val 5 _⟩
    · rcases z.2.2.2.2.1 with e | e
      · show NameOk g.2.1; rw [e]; exact hw
      · show NameOk g.2.1; rw [e]; exact hw.low
    · show WordOk (upL g.2.1)
      rw [z.2.2.2.2.1.up z.1]; exact ⟨z.1, z.2.2.1⟩
theorem word_in : ∀ r ∈ rowsT tx f, inf (upL r.1) tx = true := by
  have h := run_ok htx hl hf
  intro r hr
  rw [rows_eq htx hl hf] at hr
  rcases List.mem_cons.mp hr with rfl | hr
  · exact inf_take tx 0
  · obtain ⟨g, hg, rfl⟩ := List.mem_map.mp hr
    have z := h.all g hg
    show inf (upL g.2.1) tx = true
    rw [z.2.2.2.2.1.up z.1]; exact z.2.2.2.1
theorem pure_has : ∀ r ∈ rowsT tx f, ∀ u, inf u (upL r.1) = true → kdpHas (sumsT tx f) (st u) = true := by
  intro r hr u hu
  rw [sumsT_eq htx hl hf]
  exact map_has (fun u => totOf (uRows (rowsT tx f)) u.1 u.2) u _ (uRows_mem htx hl hf (inf_trans hu (word_in htx hl hf r hr)))
theorem sums_at {u : List Nat} (h : inf u tx = true) : kdpLook (sumsT tx f) (st u) 0 = sumBy (uRows (rowsT tx f)) fun z => i1 (inf z u) := by
  obtain ⟨⟨u', x⟩, hm, e⟩ := List.mem_map.mp (uRows_mem htx hl hf h)
  have e' : u' = u := e
  subst e'
  rw [sumsT_eq htx hl hf, map_look (fun u => totOf (uRows (rowsT tx f)) u.1 u.2) u' x _ (uRows_nodup htx hl hf) hm]
  exact tot_all (uRows_nodup htx hl hf) hm
theorem back_at {r : List Nat × List Nat} (hr : r ∈ rowsT tx f) : backV (fun u => kdpLook (sumsT tx f) (st u) 0) 6 (upL r.1) = ((rd r.2 0 : Nat) : Int) := by
  have hm : (upL r.1, ((rd r.2 0 : Nat) : Int)) ∈ uRows (rowsT tx f) := List.mem_map.mpr ⟨r, hr, rfl⟩
  have hw := (pure_rows htx hl hf r hr).2.1.2
  rw [back_weight (us := uRows (rowsT tx f)) 6 (upL r.1) (by omega) fun y hy => sums_at htx hl hf (inf_trans hy (word_in htx hl hf r hr))]
  exact sum_one _ _ _ (uRows_nodup htx hl hf) hm
theorem pure_told : toldT tx f = (dueEnd tx f).due := by
  have h := run_ok htx hl hf
  have h0 := hf 0
  have e1 : toldT tx f = (rowsT tx f).map fun r => (r.1, ((rd r.2 0 : Nat) : Int)) := by
    unfold toldT
    exact List.map_congr_left fun r hr => by rw [back_at htx hl hf hr]
  rw [e1, rows_eq htx hl hf, run_due htx hl hf, List.map_cons, List.map_map]
  unfold toDue
  refine cons2 ?_ ?_
  · refine congrArg (Prod.mk []) ?_
    show ((rd (apF 5 (f 0)) 0 : Nat) : Int) = _
    rw [rd_apF 5 _ (by omega)]
  · refine List.map_congr_left fun g hg => ?_
    show (g.2.1, ((rd (apF 5 g.2.2) 0 : Nat) : Int)) = _
    rw [rd_apF 5 _ (h.all g hg).2.2.2.2.2]
theorem pure_given : (tabEnd (rd tx 0) f).2.map (fun g => ((rd g 0 : Nat) : Int)) = (dueEnd tx f).firsts ++ [((f 0 : Nat) : Int)] := by
  have h := run_ok htx hl hf
  have h0 := hf 0
  rw [given_eq htx hl hf, run_due htx hl hf]
  revert h
  generalize gRun tx f pairsL ([], [f 0]) = S
  intro h
  have e1 : S.2.map (fun x => ((rd (apF 5 x) 0 : Nat) : Int)) = S.2.map (fun (x : Nat) => (x : Int)) := List.map_congr_left fun x hx => by rw [rd_apF 5 _ (h.nums x hx)]
  have e2 : ((rd (apF 5 (f 0)) 0 : Nat) : Int) = ((f 0 : Nat) : Int) := by rw [rd_apF 5 _ (by omega)]
  have e3 : (toDue (f 0) S).firsts = S.2.map (fun (x : Nat) => (x : Int)) := rfl
  rw [e3, ← e1, ← e2, List.map_append, List.map_map]
  rfl
theorem pure_vals : ∀ g ∈ (tabEnd (rd tx 0) f).2, ValOk g := by
  intro g hg
  rw [given_eq htx hl hf] at hg
  rcases List.mem_append.mp hg with hg | hg
  · obtain ⟨x, _, rfl⟩ := List.mem_map.mp hg; exact apF_val 5 _
  · rw [List.mem_singleton.mp hg]; exact apF_val 5 _
end
section
variable {prog : Program} {w : World} {A : Around} {s : Shared} {env : Env} {h₀ : Heap} {m : Str → Option Value} {news : List (Addr × Obj)} {E : Value → Shared → Prop}
theorem compZip {elt : Expr} {scope : Scope} {cl : List (Str × Addr)} {up : Value → (Str → Option Value) → (Str → Option Value)} {Q : Value → Shared → Prop} {l1 l2 : Addr} {xs ys : List Value} {elts : List Expr} {x1} {pos : Pos} (n : Nat) (G : Nat → Value → Option Obj → Prop) (hh : A.handled = none)
    (F : Fr h₀ env.locals s.heap m) (N : News h₀ env.locals s.heap news) (hl1 : s.heap.IsList l1 xs.toArray) (hl2 : s.heap.IsList l2 ys.toArray) (hn : min xs.length ys.length = n) (hsz : n ≤ sizeLine)
    (helt : ∀ g i x y T C m₃ h tk own, i < n → xs[i]? = some x → ys[i]? = some y → h.IsTuple T #[x, y] → env.locals ≠ C → (∀ b o', h₀.get? b = some o' → g.get? b = some o') → (∀ p ∈ news, g.get? p.1 = some p.2) →
      Fr g C h m₃ → News g C h own →
      wpAny (model prog w) A (assign (.Tuple elts x1 pos) (compEnvC scope cl C env) (.ref T)) (fun _ s₄ => wpAny (model prog w) A (eval elt (compEnvC scope cl C env)) (fun y s₅ =>
        ∃ h' tk' m' oo, s₅ = { s with heap := h', toks := tk' } ∧ Fr g C h' m' ∧ News g C h' own ∧ G i y oo ∧ AtN h' (fun a => a = C ∨ g.get? a ≠ none ∨ ∃ p ∈ own, p.1 = a) y oo) (fun _ _ => False) s₄) (fun _ _ => False) { s with heap := h, toks := tk })
    (hQ : ∀ D h' tk ys els, Fr h₀ env.locals h' (up (.ref D) m) → News h₀ env.locals h' (els ++ (D, LCg.lst ys) :: news) → ys.length = n → (∀ j y, ys[j]? = some y → ∃ oo, G j y oo ∧ InE els y oo) → Q (.ref D) { s with heap := h', toks := tk }) :
    wpAny (model prog w) A (call (.type "zip") [.ref l1, .ref l2]) (fun xv s₁ => wpAny (model prog w) A (pyIter xv) (fun it s₂ => CompG prog w A h₀ env elt (.Tuple elts x1 pos) scope cl up Q it s₂) E s₁) E s := by
  refine zip_rows F hl1 hl2 fun h' z TI TO i1 i2 D hst F' hk k1 k2 k3 k4 k5 => ?_
  refine wpAny_pyIter_zip hst.1 ?_
  have W := (WalksT.zip2 (prog := prog) (w := w) hh z TI TO i1 i2 l1 l2 D xs.toArray ys.toArray).toU
  have four : ∀ b ∈ [z, TO, i1, i2], s.heap.objs.size ≤ b := fun b hb => by
    simp only [List.mem_cons, List.not_mem_nil, or_false] at hb
    rcases hb with rfl | rfl | rfl | rfl <;> assumption
  have none9 : ∀ b, s.heap.objs.size ≤ b → h₀.get? b = none := fun b hb => by
    cases e : h₀.get? b with
    | none => rfl
    | some o => exact absurd (Heap.lt_size (F.keep _ _ e)) (Nat.not_lt.mpr hb)
  refine ⟨_, _, _, _, _, _, G, m, news, rfl, WalksH.ofU W, ?_, ?_, ?_, fun b hb => none9 b (four b hb), ?_, ?_, hst, F', newsExt N hk, ?_, ?_⟩
  · simpa [hn] using hsz
  · rintro i h ⟨a1, _, ⟨_, _, a3⟩, ⟨o4, a4, _⟩, ⟨o5, a5, _⟩, _⟩ b hb
    simp only [List.mem_cons, List.not_mem_nil, or_false] at hb
    rcases hb with rfl | rfl | rfl | rfl
    · exact ⟨_, a1⟩
    · exact ⟨_, a3⟩
    · exact ⟨_, a4⟩
    · exact ⟨_, a5⟩
  · intro hm; exact absurd F.ns.lt (Nat.not_lt.mpr (four _ hm))
  · intro p hp hm; exact absurd (Heap.lt_size (N p hp).1) (Nat.not_lt.mpr (four _ hm))
  · obtain ⟨a1, a2, ⟨_, _, a3⟩, ⟨o4, a4, _⟩, ⟨o5, a5, _⟩, ⟨o6, a6, _⟩, ⟨o7, a7, _⟩⟩ := hst
    intro b hb
    simp only [List.mem_cons, List.not_mem_nil, or_false] at hb
    rcases hb with rfl | rfl | rfl | rfl | rfl | rfl | rfl
    · exact ⟨_, a1⟩
    · exact ⟨_, a2⟩
    · exact ⟨_, a3⟩
    · exact ⟨_, a4⟩
    · exact ⟨_, a5⟩
    · exact ⟨_, a6⟩
    · exact ⟨_, a7⟩
  · rintro i v C m₃ h tk own hi ⟨T, vals, rfl, ⟨x, y, hx, hy, rfl⟩, hT⟩ hLC g0 gn F'' N''
    exact helt _ i x y T C m₃ h tk own (by rw [← hn]; simpa using hi) (by simpa using hx) (by simpa using hy) hT hLC g0 gn F'' N''
  · intro Dl h'' tk zs els F'' N'' he hD hlen hy
    exact hQ Dl h'' tk zs els F'' N'' (by rw [hlen, ← hn]; simp) hy
end
def baseL : List Int := [9, 22, 6, 15, 13]
def drawn (ns : List Int) (i : Nat) : Int := baseL.getD i 0 + (ns.take 5 ++ [0, 0, 0, 0, 0]).getD i 0
def textOf (ns : List Int) : List Nat := (List.range 5).map fun j => 66 + ((drawn ns j).fmod 3).toNat
def figOf (ns : List Int) (j : Nat) : Nat := (((drawn ns j).fdiv 3).fmod 20).toNat
theorem fmod_bounds (x : Int) {m : Int} (hm : 0 < m) : 0 ≤ x.fmod m ∧ x.fmod m < m := ⟨Int.fmod_nonneg_of_pos _ hm, Int.fmod_lt_of_pos _ hm⟩
theorem textOf_len (ns : List Int) : (textOf ns).length = 5 := by unfold textOf; rw [List.length_map, List.length_range]
theorem textOf_at (ns : List Int) (c : Nat) (h : c ∈ textOf ns) : c = 66 ∨ c = 67 ∨ c = 68 := by
  obtain ⟨j, _, rfl⟩ := List.mem_map.mp h
  have := fmod_bounds (drawn ns j) (m := 3) (by decide)
  omega
theorem figOf_le (ns : List Int) (j : Nat) : figOf ns j ≤ 19 := by
  unfold figOf
  have := fmod_bounds ((drawn ns j).fdiv 3) (m := 20) (by decide)
  omega
section
variable {h₀ h : Heap} {L a : Addr} {R : List (Addr × Obj)}
theorem five_led {x1 x2 x3 x4 x5 : Int} {t1 t2 t3 t4 t5 : Tok} {n : Nat} (N : News h₀ L h ((a, { cls := .type "list", data := .seq #[Value.int x1 t1, Value.int x2 t2, Value.int x3 t3, Value.int x4 t4, Value.int x5 t5] n }) :: R)) : ∃ bv, IntsAre bv [x1, x2, x3, x4, x5] ∧ News h₀ L h ((a, listObj bv n) :: R) :=
  ⟨_, .cons _ _ (.cons _ _ (.cons _ _ (.cons _ _ (.cons _ _ .nil)))), N⟩
theorem arr_led {X : Array Value} {n : Nat} (N : News h₀ L h ((a, { cls := .type "list", data := .seq X n }) :: R)) : News h₀ L h ((a, listObj X.toList n) :: R) := N
end
theorem drawn_eq {ns : List Int} {i : Nat} {b1 b2 : Int} (h1 : [(9 : Int), 22, 6, 15, 13][i]? = some b1) (h2 : (ns.take 5 ++ [(0 : Int), 0, 0, 0, 0])[i]? = some b2) : drawn ns i = b1 + b2 := by
  unfold drawn baseL
  rw [List.getD_eq_getElem?_getD, List.getD_eq_getElem?_getD, h1, h2]; rfl
theorem item_BCD0 : ∀ k : Fin 3, Txt.item (Str.ofString "BCD") (k.val : Int) = ⟨#[66 + k.val]⟩ := by decide +kernel
theorem item_BCD (x : Int) : Txt.item (Str.ofString "BCD") (x.fmod 3) = ⟨#[66 + (x.fmod 3).toNat]⟩ := by
  have := fmod_bounds x (m := 3) (by decide)
  have e : x.fmod 3 = (((⟨(x.fmod 3).toNat, by omega⟩ : Fin 3).val : Nat) : Int) := by show _ = (((x.fmod 3).toNat : Nat) : Int); omega
  rw [e, item_BCD0]; rfl
theorem textOf_get {ns : List Int} {j : Nat} (h : j < 5) : (textOf ns)[j]? = some (66 + ((drawn ns j).fmod 3).toNat) := by
  unfold textOf; rw [List.getElem?_map, List.getElem?_range h]; rfl
theorem figOf_eq (ns : List Int) (j : Nat) : ((drawn ns j).fdiv 3).fmod 20 = ((figOf ns j : Nat) : Int) := by
  have := fmod_bounds ((drawn ns j).fdiv 3) (m := 20) (by decide)
  unfold figOf; omega
theorem newsApp {h₀ h : Heap} {L : Addr} {a b : List (Addr × Obj)} (A : News h₀ L h a) (B : News h₀ L h b) : News h₀ L h (a ++ b) := fun q hq => (List.mem_append.mp hq).elim (A q) (B q)
theorem cell_first {h₀ h : Heap} {L d D3 c : Addr} {od O3 oc : Obj} {LST : List (Addr × Obj)} (N : News h₀ L h ((d, od) :: (LST ++ [(D3, O3), (c, oc)]))) : News h₀ L h ((c, oc) :: (d, od) :: (LST ++ [(D3, O3)])) := news_sub (fun q hq => by
  simp only [List.mem_cons, List.mem_append, List.not_mem_nil, or_false] at hq ⊢
  rcases hq with h | h | h | h <;> simp only [h, true_or, or_true]) N
theorem rowsIn_len {nx : List (Addr × Obj)} : ∀ {vs : List Value} {rows : List (List Nat × List Nat)}, RowsIn nx vs rows → vs.length = rows.length
  | _, _, .nil => rfl
  | _, _, .cons _ r => congrArg (· + 1) (rowsIn_len r)
theorem dueIn_of {nx : List (Addr × Obj)} {ys : List Value} : ∀ {rows : List (List Nat × Int)}, ys.length = rows.length → (∀ (j : Nat) (y : Value), ys[j]? = some y → ∃ a k t u x z, y = .ref a ∧ rows[j]? = some (x, z) ∧ (a, tupObj [sv x t, .int z u] k) ∈ nx) → DueIn nx ys rows := by
  induction ys with
  | nil => intro rows hl _; cases rows with
    | nil => exact .nil
    | cons _ _ => cases hl
  | cons y ys ih =>
    intro rows hl h
    cases rows with
    | nil => cases hl
    | cons r rows =>
      obtain ⟨a, k, t, u, x, z, rfl, e, hm⟩ := h 0 y (by simp)
      simp at e; subst e
      exact .cons hm (ih (by simpa using hl) fun j y hj => by simpa using h (j + 1) y (by simpa using hj))
theorem intAll_of {ys : List Value} : ∀ {ls : List Int}, ys.length = ls.length → (∀ (j : Nat) (y : Value), ys[j]? = some y → ∃ x t, ls[j]? = some x ∧ y = .int x t) → IntAll ys ls := by
  induction ys with
  | nil => intro ls hl _; cases ls with
    | nil => exact .nil
    | cons _ _ => cases hl
  | cons y ys ih =>
    intro ls hl h
    cases ls with
    | nil => cases hl
    | cons r ls =>
      obtain ⟨x, t, e, rfl⟩ := h 0 y (by simp)
      simp at e; subst e
      exact .cons (ih (by simpa using hl) fun j y hj => by simpa using h (j + 1) y (by simpa using hj))
theorem svAll_get : ∀ {vs : List Value} {ls : List (List Nat)}, SvAll vs ls → ∀ {i : Nat} {v : Value}, vs[i]? = some v → ∃ z t, ls[i]? = some z ∧ v = sv z t
  | _, _, .nil, _, _, e => by simp at e
  | _, _, .cons (l := l) (t := t) r, 0, v, e => by simp at e; exact ⟨l, t, rfl, e.symm⟩
  | _, _, .cons r, i + 1, v, e => by simpa using svAll_get r (i := i) (by simpa using e)
theorem toldT_get {tx : List Nat} {f : Nat → Nat} {j : Nat} {r : List Nat × List Nat} (h : (rowsT tx f)[j]? = some r) : (toldT tx f)[j]? = some (r.1, backV (fun u => kdpLook (sumsT tx f) (st u) 0) 6 (upL r.1)) := by
  unfold toldT; rw [List.getElem?_map, h]; rfl
def lawData (a : List (List Nat × Int)) (b : List Int) : PyData := .tuple [.list (a.map pairD), .list (b.map PyData.int)]
theorem pairs_lay : ∀ (a : List (List Nat × Int)), (∀ p ∈ a, NameOk p.1) → PyData.canLayAll0 (a.map pairD) = true
  | [], _ => rfl
  | p :: a, h => by
    have h1 : PyData.strOk (st p.1) = true := by
      unfold PyData.strOk
      rw [Array.all_eq_true]
      intro i hi
      have := (h p (.head _)).1 _ (List.getElem_mem (l := p.1) (by simpa using hi))
      simp; omega
    rw [List.map_cons, PyData.canLayAll0, pairs_lay a fun q hq => h q (.tail _ hq)]
    simp [pairD, PyData.canLay0, PyData.canLayAll0, h1]
theorem pairs_depth : ∀ (a : List (List Nat × Int)), PyData.depthAll (a.map pairD) ≤ 1
  | [] => by simp [PyData.depthAll]
  | p :: a => by
    rw [List.map_cons, PyData.depthAll]
    have := pairs_depth a
    simp [pairD, PyData.depth, PyData.depthAll]; omega
theorem lawData_lay {a : List (List Nat × Int)} {b : List Int} (h : ∀ p ∈ a, NameOk p.1) : PyData.canLay0 (lawData a b) = true := by
  simp [lawData, PyData.canLay0, PyData.canLayAll0, pairs_lay a h, ke_canLayAll0]
theorem lawData_shaped {a : List (List Nat × Int)} {b : List Int} (h : ∀ p ∈ a, NameOk p.1) : SeqAt.shaped (lawData a b) = true := by
  unfold SeqAt.shaped
  rw [lawData_lay h, Bool.true_and, decide_eq_true_eq]
  have := pairs_depth a
  simp [lawData, PyData.depth, PyData.depthAll, ke_depthAll]; omega
local macro_rules | `(tactic| walk_at "NOWALK") => `(tactic| first | (with_reducible show wpAny _ _ (binaryOp Operator.FloorDiv _ _) _ _ _) | (with_reducible show wpAny _ _ (call (Value.type "zip") _ _) _ _ _) | (with_reducible show wpAny _ _ (compareOp CmpOp.Eq (Value.ref _) (Value.ref _)) _ _ _) | (with_reducible show wpAny _ _ (call (Value.builtin "str.join") _ _) _ _ _) | (with_reducible show wpAny _ _ (assign (Expr.Tuple _ _ _) _ _) _ _ _) | fail)
section
variable {w : World} {p : Program} {loose : List Str} {mg mb : Str → Option Value} {dp un : Nat} {fl : List Env} {gd : Option (List Code)} {s : Shared} {Q E : Value → Shared → Prop}
theorem law_spec {sa : Addr} {scv : List Value} {ns : List Int} (H : Here w p loose mg mb s.heap) (hd : dp + 200 < 1000)
    (hsa : s.heap.IsList sa scv.toArray) (hI : IntsAre scv ns) (hlen : scv.length ≤ 63) (hseer : s.heap.NoSeer) (hun : un ≤ 100)
    (ret : Ret s Q (fun v _ => v = .bool true)) : wpAny (model PW w) (au dp un (some fl) gd) (call (.ref 279) [.ref sa]) Q E s := by
  have hrl : recursionLimit = 1000 := rfl
  k_dflt (refine' enterC (binds := [((PySem.Str.ofString "script"), .ref sa)]) (Here.X (by assumption)) (Here.T (by assumption)) ?k6 ?k7 ?k8 ?k9 ?kB ?kD ?_ ?c2 ?c3 ?c4; (case k6 => k_is); (case k7 => k_is); (case k8 => (dsimp only; omega)); (case k9 => exact BindsTo.of_eq rfl); (case kB => exact rfl); (case kD => decide +kernel); (case c2 => exact rfl); (case c3 => exact rfl); (case c4 => exact rfl))
  intro L' h' tk' cells' F' N' Y' X' T'
  k_cells Y'
  (try simp only [List.cons_append, List.nil_append] at N')
  (try dsimp only)
  (show wpAny _ _ _ _ _ _)
  k_fold
  walk_at "STEPSW"
  refine compA s.heap rfl rfl (by decide) rfl (by decide) rfl rfl ?_
  walk_at "STEPSW"
  obtain ⟨ba, hba⟩ := frRef (by with_reducible assumption : Fr _ _ _ _) (Str.ofString "bases") rfl
  subst hba
  obtain ⟨osa, hosa, hosa2⟩ := hsa
  (with_reducible rename Fr _ _ _ _ => kF)
  (with_reducible rename News _ _ _ _ => kN)
  refine kba_turn (value' := PySem.Expr.Name (PySem.Str.ofString "_") ⟨0, 0, 0, 0⟩) (fun _ => rfl) ?_
  refine kmk_slice (s := ⟨_, _, _, _, _⟩) (its := scv.toArray) kF kN ⟨_, kF.keep _ _ hosa, hosa2⟩ (by constructor) (by constructor) ?_ rfl (by kmk_pure) (by show scv.toArray.size ≤ 2 ^ 24; simp; omega)
  clear kF kN
  intro D5 h5 F5 N5 l5
  dsimp only
  have hI5 := slice_ints_uptoW hI (y := 5) (by decide)
  walk_at "STEPSW"
  (with_reducible rename Fr _ _ _ _ => kF)
  (with_reducible rename News _ _ _ _ => kN)
  obtain ⟨zv, hZ, kN⟩ := five_led kN
  have N1 := news_sub (a := [_, _, _]) (fun q hq => List.mem_cons_of_mem _ hq) kN
  have kN2 := arr_led (R := [_, _]) (fun q hq => N1 q hq)
  clear N1
  refine add_lists (s := ⟨_, _, _, _, _⟩) (vs := (slicePick scv.toArray none (some 5) none).toList) (ws := zv) kF kN ⟨_, (kN2 _ (.head _)).1, rfl, _, rfl⟩ ⟨_, (kN _ (.head _)).1, rfl, _, rfl⟩ ?_ (by rw [hI5.length, hZ.length, List.length_take]; show min 5 ns.length + 5 ≤ 2 ^ 24; omega)
  intro h6 F6 N6
  clear kN2 kF kN
  generalize (slicePick scv.toArray none (some 5) none).toList = A5 at *
  dsimp only
  walk_at "STEPSW"
  replace hI5 : IntsAre A5 (ns.take 5) := hI5
  have NB := news_sub (a := [_, _]) (fun q hq => .tail _ (.tail _ (.tail _ hq))) N6
  obtain ⟨bv, hB, NB⟩ := five_led NB
  have NC := news_sub (a := [_]) (fun q hq => .tail _ hq) NB
  refine compZip 5 (xs := bv) (ys := A5 ++ zv) (fun i y oo => oo = none ∧ ∃ t, y = .int (drawn ns i) t) rfl F6 NC ⟨_, (NB _ (.head _)).1, rfl, _, rfl⟩ ⟨_, (N6 _ (.head _)).1, rfl, _, rfl⟩ (by rw [List.length_append, hB.length, hZ.length]; simp) (by decide) ?elt ?done
  case elt =>
    intro g i x y T C m₃ h tk own hi hx hy hT hLC g0 gn F N
    clear F6 N6 NB NC
    obtain ⟨b1, t1, rfl, hb1⟩ := hB.at _ _ hx
    obtain ⟨b2, t2, rfl, hb2⟩ := (hI5.append hZ).at _ _ hy
    have X9 := H.X.keeps g0
    have T9 := H.T.keeps g0
    refine assign_Tuple_tuple rfl hT rfl rfl ?_
    intro h5 x5
    have e5 : Ext h h5 := fun b o e => x5 b o (Nat.ne_of_lt (Heap.lt_size e)) e
    replace F := frExt F e5
    replace N := newsExt N e5
    walk_at "STEPSW"
    (with_reducible rename Fr _ _ _ _ => kF)
    (with_reducible rename News _ _ _ _ => kN)
    exact ⟨_, _, _, none, rfl, kF, kN, ⟨rfl, _, by rw [drawn_eq hb1 hb2]⟩, trivial⟩
  case done =>
    clear F6 N6 NB NC
    intro D1 h7 tk7 dv els F7 N7 hlen1 hy
    have hdv : ∀ j y, dv[j]? = some y → ∃ t, y = Value.int (drawn ns j) t := fun j y h => (by obtain ⟨_, ⟨_, q⟩, _⟩ := hy j y h; exact q)
    clear hy
    replace N7 := news_sub (a := [_, _]) (fun q hq => List.mem_append.mpr (.inr hq)) N7
    walk_at "STEPSW"
    refine compE s.heap rfl (by decide) rfl (by decide) ?_
    walk_at "STEPSW"
    (with_reducible rename Fr _ _ _ _ => kF)
    (with_reducible rename News _ _ _ _ => kN)
    refine compList (vs := dv) (nn := dv.length) (fun i y oo => oo = none ∧ ∃ t, y = .str ⟨#[66 + ((drawn ns i).fmod 3).toNat]⟩ t) rfl (GoOk.name fun _ => rfl) kF kN (.inl (by simp)) (by rw [hlen1]; decide) ?elt2 ?done2
    case elt2 =>
      intro g i v C m₃ h tk own hi hv hLC g0 gn F N
      clear kF kN
      obtain ⟨t1, rfl⟩ := hdv i v hv
      have X9 := H.X.keeps g0
      have T9 := H.T.keeps g0
      refine wpAny_assign_Name ?_
      walk_at "STEPSW"
      refine tail_of_ItemOn (SBL.item (x := Str.ofString "BCD") ?i1 ?i2 (by decide) ?_) (by with_unfolding_all rfl) (by intro _; with_unfolding_all rfl)
      case i1 => have := (fmod_bounds (drawn ns i) (m := 3) (by decide)).1; show -(3 : Int) ≤ _; omega
      case i2 => exact (fmod_bounds (drawn ns i) (m := 3) (by decide)).2
      intro _
      rw [item_BCD]
      (try walk_at "STEPSW")
      (with_reducible rename Fr _ _ _ _ => kF)
      (with_reducible rename News _ _ _ _ => kN)
      exact ⟨_, _, _, none, rfl, kF, kN, ⟨rfl, _, rfl⟩, trivial⟩
    case done2 =>
      intro D2 h8 tk8 lv els F8 N8 he hD hlen2 hy
      clear kF kN
      have hs := strs_of (l := textOf ns) (by rw [hlen2, hlen1, textOf_len]) fun j y hj => by
        obtain ⟨_, ⟨_, t, r⟩, _⟩ := hy j y hj
        have hj5 : j < 5 := by have := (List.getElem?_eq_some_iff.mp hj).1; omega
        exact ⟨_, t, textOf_get hj5, r⟩
      clear hy he hD
      walk_at "STEPSW"
      refine join_list (ys := _) (items := lv.toArray) ⟨_, (N8 (D2, LCg.lst lv) (by simp)).1, rfl, _, rfl⟩ (by simpa using hs) (by rw [sum_ones, textOf_len, show (Str.ofString "").length = 0 from rfl]; omega) ?_
      intro t8 k8
      rw [show Txt.join (Str.ofString "") ((textOf ns).map fun c => (⟨#[c]⟩ : Str)) = st (textOf ns) from (show Txt.join _ _ = _ from StrLaws.glued_eq_join _ _).trans (join_ones _)]
      replace N8 := news_sub (a := [_, _]) (fun q hq => List.mem_append.mpr (.inr (.tail _ hq))) N8
      dsimp only
      walk_at "STEPSW"
      refine compA s.heap rfl rfl (by decide) rfl (by decide) rfl rfl ?_
      walk_at "STEPSW"
      (with_reducible rename Fr _ _ _ _ => kF)
      (with_reducible rename News _ _ _ _ => kN)
      refine compList (vs := dv) (nn := dv.length) (fun i y oo => oo = none ∧ ∃ t, y = .int ((figOf ns i : Nat) : Int) t) rfl (GoOk.name fun _ => rfl) kF kN (.inl (by simp)) (by rw [hlen1]; decide) ?elt3 ?done3
      case elt3 =>
        intro g i v C m₃ h tk own hi hv hLC g0 gn F N
        clear kF kN
        obtain ⟨t1, rfl⟩ := hdv i v hv
        have X9 := H.X.keeps g0
        have T9 := H.T.keeps g0
        have S9 := hseer.keeps g0
        refine wpAny_assign_Name ?_
        walk_at "STEPSW"
        (with_reducible rename Fr _ _ _ _ => kF)
        (with_reducible rename News _ _ _ _ => kN)
        refine floordiv_int (by decide) ?_ (.inr (PySem.PylongRoom.of (T9.nolimit.keeps kF.keep) (by show dp + 1 + 100 < 1000; omega) (PySem.SeerAt.of (S9.keeps kF.keep) rfl rfl rfl rfl rfl rfl)))
        dsimp only
        walk_at "STEPSW"
        (with_reducible rename Fr _ _ _ _ => kF)
        (with_reducible rename News _ _ _ _ => kN)
        exact ⟨_, _, _, none, rfl, kF, kN, ⟨rfl, _, by rw [figOf_eq]⟩, trivial⟩
      case done3 =>
        intro D3 h9 tk9 fv els3 F9 N9 he hD hlen3 hy
        have hD3c : D3 ≠ L' + 1 := fun e => by
          have z := (kN _ (.tail _ (.head _))).1
          dsimp only at hD z
          rw [e, z] at hD; cases hD
        clear kF kN
        have hfv : ∀ i, i < 5 → ∃ t, fv[i]? = some (Value.int ((figOf ns i : Nat) : Int) t) := fun i hi => by
          have hz : i < fv.length := by omega
          obtain ⟨_, ⟨_, t, q⟩, _⟩ := hy i _ (List.getElem?_eq_getElem hz)
          exact ⟨t, by rw [List.getElem?_eq_getElem hz, q]⟩
        clear hy he hD
        replace N9 := news_sub (a := [_, _]) (fun q hq => List.mem_append.mpr (.inr (by rcases List.mem_cons.mp hq with h | h; exact h ▸ .head _; exact .tail _ (.tail _ h)))) N9
        walk_at "STEPSW"
        (with_reducible rename Fr _ _ _ _ => kF)
        (with_reducible rename News _ _ _ _ => kN)
        have hD3 := (kN _ (.head _)).1
        refine' law_table_spec (fa := D3) (fv := fv) (fn := fv.length) (tx := textOf ns) (f := figOf ns) ?h1 ?h2 ?h3 (textOf_len ns) hD3 hfv (figOf_le ns) ?_
        case h1 => walk_at "HERE"
        case h2 => walk_at "ROOM"
        case h3 => exact fun c hc => by have := textOf_at ns c hc; unfold Sign; omega
        intro v9 h10 tk10 ext9 pv9
        obtain ⟨tp, k, T, dx, l, gv, gs, gn, vs, nn, hs, thk, rest, rfl, hall, hr, hgs, hrc, hvz, hgz⟩ := pv9
        have offL : ∀ q ∈ (tp, tupObj [.ref T, .ref gv] k) :: (gv, listObj gs gn) :: (l, listObj vs nn) :: (T, instObj 234 dx) :: (dx, hdict hs thk l) :: rest, q.1 ≠ L' + 1 := fun q hq e => by
          have z := (kN _ (.tail _ (.head _))).1
          have y := (hall q hq).2
          dsimp only at y z
          rw [e, z] at y; cases y
        have NL : News _ _ h10 ((tp, tupObj [.ref T, .ref gv] k) :: (gv, listObj gs gn) :: (l, listObj vs nn) :: (T, instObj 234 dx) :: (dx, hdict hs thk l) :: rest) := fun q hq => frNew kF (hall q hq).1 (hall q hq).2
        replace kF := frExt kF ext9
        replace kN := newsApp NL (newsExt kN ext9)
        clear NL hall hD3
        dsimp only at kF kN
        walk_at "STEPSW"
        refine assign_Tuple_tuple rfl ⟨_, (kN _ (.head _)).1, rfl, _, rfl⟩ rfl rfl ?_
        intro h11 x11
        have e11 := fun (b : Addr) (o : Obj) (e : Heap.get? _ b = some o) => x11 b o (Nat.ne_of_lt (Heap.lt_size e)) e
        replace kF := frExt kF e11
        replace kN := newsExt kN e11
        clear e11 x11
        walk_at "STEPSW"
        (with_reducible rename Fr _ _ _ _ => kF)
        (with_reducible rename News _ _ _ _ => kN)
        have hpr := pure_rows (textOf_at ns) (textOf_len ns) (figOf_le ns)
        refine' law_sums_spec (T := T) (dx := dx) (l := l) (hs := hs) (thk := thk) (vs := vs) (nn := nn) (rows := rowsT (textOf ns) (figOf ns)) ?h1 ?h2 ?h3 ?h4 ?h5 ?h6 (by omega) hpr ?_
        case h1 => walk_at "HERE"
        case h2 => walk_at "ROOM"
        case h3 => exact (kN (T, _) (.tail _ (.tail _ (.tail _ (.head _))))).1
        case h4 => exact (kN (dx, _) (.tail _ (.tail _ (.tail _ (.tail _ (.head _)))))).1
        case h5 => exact (kN (l, _) (.tail _ (.tail _ (.head _)))).1
        case h6 => exact hr.at fun q hq => (kN q (List.mem_append.mpr (.inl (.tail _ (.tail _ (.tail _ (.tail _ (.tail _ hq)))))))).1
        intro v9 h12 tk12 ext9 pv9
        obtain ⟨d, rfl, hnd, lo, kvs, hdic, hfl⟩ := pv9
        obtain ⟨od, hod, hdo⟩ := Heap.dictOf_iff.mp hdic
        have hdc : d ≠ L' + 1 := fun e => by
          have z := (kN _ (List.mem_append.mpr (.inr (.tail _ (.head _))))).1
          dsimp only at hnd z
          rw [e, z] at hnd; cases hnd
        have Nd := frNew kF hod hnd
        replace kF := frExt kF ext9
        replace kN := newsCons Nd (newsExt kN ext9)
        clear Nd hdic hod hnd
        (try dsimp only at kF)
        (try dsimp only at kN)
        walk_at "STEPSW"
        (with_reducible rename Fr _ _ _ _ => kF)
        (with_reducible rename News _ _ _ _ => kN)
        have NC := cell_first kN
        clear kN
        refine stCN (own := []) kF NC rfl (by assumption) (fun _ h => nomatch h) ?cc ?_
        case cc =>
          intro q hq
          rcases List.mem_cons.mp hq with rfl | hq
          · exact hdc
          rcases List.mem_append.mp hq with hq | hq
          · exact offL q hq
          · rw [List.mem_singleton.mp hq]; exact hD3c
        intro h13 oc13 F13 N13 hoc
        clear kF NC
        dsimp only [List.nil_append] at N13
        (try dsimp only)
        walk_at "STEPSW"
        refine compA s.heap rfl rfl (by decide) rfl (by decide) rfl rfl ?_
        walk_at "STEPSW"
        (with_reducible rename Fr _ _ _ _ => kF)
        (with_reducible rename News _ _ _ _ => kN)
        have mL : ∀ q ∈ (tp, tupObj [.ref T, .ref gv] k) :: (gv, listObj gs gn) :: (l, listObj vs nn) :: (T, instObj 234 dx) :: (dx, hdict hs thk l) :: rest, Heap.get? _ q.1 = some q.2 := fun q hq => (kN q (.tail _ (.tail _ (List.mem_append.mpr (.inl hq))))).1
        refine' keys_spec (T := T) (dx := dx) (l := l) (hs := hs) (thk := thk) (vs := vs) (nn := nn) (rows := rowsT (textOf ns) (figOf ns)) ?h1 ?h2 ?h3 ?h4 ?h5 (by omega) ?h6 ?_
        case h1 => walk_at "HERE"
        case h2 => walk_at "ROOM"
        case h3 => exact mL (T, _) (.tail _ (.tail _ (.tail _ (.head _))))
        case h4 => exact mL (dx, _) (.tail _ (.tail _ (.tail _ (.tail _ (.head _)))))
        case h5 => exact mL (l, _) (.tail _ (.tail _ (.head _)))
        case h6 => exact hr.at fun q hq => mL q (.tail _ (.tail _ (.tail _ (.tail _ (.tail _ hq)))))
        intro v9 h14 tk14 ext9 pv9
        obtain ⟨ka, kl, kn, rfl, hka, hnka, hklen, hkl⟩ := pv9
        have Nk := frNew kF hka hnka
        replace kF := frExt kF ext9
        replace kN := newsCons Nk (newsExt kN ext9)
        clear Nk hka hnka mL
        dsimp only
        refine compList (vs := kl) (nn := kn) (fun i y oo => ∃ (b : Addr) (k : Nat) (t1 t2 : Tok) (r : List Nat × List Nat), y = .ref b ∧ (rowsT (textOf ns) (figOf ns))[i]? = some r ∧ oo = some (tupObj [sv r.1 t1, .int (backV (fun u => kdpLook (sumsT (textOf ns) (figOf ns)) (st u) 0) 6 (upL r.1)) t2] k)) rfl (GoOk.name fun _ => rfl) kF kN (.inl (.head _)) (by rw [hklen, ← rowsIn_len hr]; exact Nat.le_trans hvz (by decide)) ?elt4 ?done4
        case elt4 =>
          intro g i v C m₃ h tk own hi hv hLC g0 gn F N
          clear kF kN
          obtain ⟨r, t1, hri, rfl⟩ := hkl i v hv
          have hrm := List.mem_of_getElem? hri
          have hr1 : NameOk r.1 := (hpr r hrm).1
          have hr2 : WordOk (upL r.1) := (hpr r hrm).2.1
          have X9 := H.X.keeps g0
          have T9 := H.T.keeps g0
          have H9 : Here w p loose mg mb g := ⟨X9, T9⟩
          have hcl := gn _ (.tail _ (.head _))
          have hS : StrTab PW w g d (kdpD (sumsT (textOf ns) (figOf ns))) := TabAt.ofObj lo (gn _ (.tail _ (.tail _ (.head _)))) hdo hfl
          dsimp only at hcl
          refine wpAny_assign_Name ?_
          walk_at "STEPSW"
          (with_reducible rename Fr _ _ _ _ => kF)
          (with_reducible rename News _ _ _ _ => kN)
          refine' law_back_spec (d := d) (c := sumsT (textOf ns) (figOf ns)) 6 _ _ _ _ _ _ _ (upL r.1) _ ?h1 ?h2 ?h3 hr2 (by have := hr2.2; omega) (pure_has (textOf_at ns) (textOf_len ns) (figOf_le ns) r hrm) ?_
          case h1 => walk_at "HERE"
          case h2 => walk_at "ROOM"
          case h3 => exact hS.keep kF.keep
          intro v9 h9 tk9 ext9 pv9
          (with_reducible rename Fr _ _ _ _ => kF)
          (with_reducible rename News _ _ _ _ => kN)
          replace kF := frExt kF ext9
          replace kN := newsExt kN ext9
          (try dsimp only at kF kN)
          obtain ⟨t2, rfl⟩ := pv9
          have lD : ∀ p ∈ own, @LT.lt Nat _ p.1 h9.objs.size := fun p hp => Heap.lt_size (kN p hp).1
          walk_at "STEPSW"
          (with_reducible rename Fr _ _ _ _ => kF)
          (with_reducible rename News _ _ _ _ => kN)
          have nD := kN _ (.head _)
          exact ⟨_, _, _, some _, rfl, kF, fun q hq => kN q (.tail _ hq), ⟨_, 0, _, _, r, rfl, hri, rfl⟩, _, rfl, nD.1, fun q => q.elim nD.2.1 fun q => q.elim (fun q => q nD.2.2) fun ⟨p, hp, e⟩ => Nat.lt_irrefl _ (e ▸ lD p hp)⟩
        case done4 =>
          intro D4 h15 tk15 tv els4 F15 N15 he hD hlen4 hy
          clear kF kN
          have hT4 : DueIn els4 tv (toldT (textOf ns) (figOf ns)) := dueIn_of (by rw [hlen4, hklen]; simp [toldT]) fun j y hj => by
            obtain ⟨_, ⟨b, k, t1, t2, r, rfl, h1, rfl⟩, b', e, hm⟩ := hy j y hj
            cases e; exact ⟨b, k, t1, t2, r.1, _, rfl, toldT_get h1, hm⟩
          clear hy he hD
          have mD3 : ∀ q ∈ [(D3, LCg.lst fv)], q ∈ els4 ++ (D4, LCg.lst tv) :: (ka, listObj kl kn) :: (L' + 1, oc13) :: (d, od) :: ((tp, tupObj [.ref T, .ref gv] k) :: (gv, listObj gs gn) :: (l, listObj vs nn) :: (T, instObj 234 dx) :: (dx, hdict hs thk l) :: rest ++ [(D3, LCg.lst fv)]) := fun q hq => List.mem_append.mpr (.inr (.tail _ (.tail _ (.tail _ (.tail _ (List.mem_append.mpr (.inr hq)))))))
          have mgv : (gv, listObj gs gn) ∈ els4 ++ (D4, LCg.lst tv) :: (ka, listObj kl kn) :: (L' + 1, oc13) :: (d, od) :: ((tp, tupObj [.ref T, .ref gv] k) :: (gv, listObj gs gn) :: (l, listObj vs nn) :: (T, instObj 234 dx) :: (dx, hdict hs thk l) :: rest ++ [(D3, LCg.lst fv)]) := List.mem_append.mpr (.inr (.tail _ (.tail _ (.tail _ (.tail _ (.tail _ (.head _)))))))
          have N16 : News _ _ h15 (els4 ++ [(D4, LCg.lst tv), (gv, listObj gs gn), (D3, LCg.lst fv)]) := news_sub (fun q hq => by
            rcases List.mem_append.mp hq with hq | hq
            · exact List.mem_append.mpr (.inl hq)
            rcases List.mem_cons.mp hq with rfl | hq
            · exact List.mem_append.mpr (.inr (.head _))
            rcases List.mem_cons.mp hq with rfl | hq
            · exact mgv
            · exact mD3 q hq) N15
          clear N15 mD3 mgv
          walk_at "STEPSW"
          refine compE s.heap rfl (by decide) rfl (by decide) ?_
          walk_at "STEPSW"
          (with_reducible rename Fr _ _ _ _ => kF)
          (with_reducible rename News _ _ _ _ => kN)
          have hva := pure_vals (textOf_at ns) (textOf_len ns) (figOf_le ns)
          refine compList (vs := gs) (nn := gn) (fun i y oo => oo = none ∧ ∃ z t, (tabEnd (rd (textOf ns) 0) (figOf ns)).2[i]? = some z ∧ y = .int ((rd z 0 : Nat) : Int) t) rfl (GoOk.name fun _ => rfl) kF kN (.inl (by simp)) (Nat.le_trans hgz (by decide)) ?elt5 ?done5
          case elt5 =>
            intro g i v C m₃ h tk own hi hv hLC g0 gn F N
            clear kF kN
            obtain ⟨z, t1, hz, rfl⟩ := svAll_get hgs hv
            have hvz9 := hva z (List.mem_of_getElem? hz)
            have X9 := H.X.keeps g0
            have T9 := H.T.keeps g0
            have H9 : Here w p loose mg mb g := ⟨X9, T9⟩
            refine wpAny_assign_Name ?_
            walk_at "STEPSW"
            refine' law_read_spec (l := z) ?h1 ?h2 hvz9.1 hvz9.2 ?_
            case h1 => walk_at "HERE"
            case h2 => walk_at "ROOM"
            intro v9 h9 tk9 ext9 pv9
            (with_reducible rename Fr _ _ _ _ => kF)
            (with_reducible rename News _ _ _ _ => kN)
            replace kF := frExt kF ext9
            replace kN := newsExt kN ext9
            (try dsimp only at kF kN)
            obtain ⟨t7, rfl⟩ := pv9
            (try walk_at "STEPSW")
            (with_reducible rename Fr _ _ _ _ => kF)
            (with_reducible rename News _ _ _ _ => kN)
            exact ⟨_, _, _, none, rfl, kF, kN, ⟨rfl, z, _, hz, rfl⟩, trivial⟩
          case done5 =>
            intro D5 h16 tk16 rv els5 F16 N16 he hD hlen5 hy
            clear kF kN
            have hR5 : IntAll rv ((tabEnd (rd (textOf ns) 0) (figOf ns)).2.map fun g => ((rd g 0 : Nat) : Int)) := intAll_of (by rw [hlen5, hgs.len, List.length_map]) fun j y hj => by
              obtain ⟨_, ⟨_, z, t, h1, h2⟩, _⟩ := hy j y hj
              exact ⟨_, t, by rw [List.getElem?_map, h1]; rfl, h2⟩
            clear hy he hD
            replace N16 := news_sub (fun q hq => List.mem_append.mpr (.inr hq)) N16
            walk_at "STEPSW"
            (with_reducible rename Fr _ _ _ _ => kF)
            (with_reducible rename News _ _ _ _ => kN)
            refine' law_due_spec (fa := D3) (fv := fv) (fn := fv.length) (tx := textOf ns) (f := figOf ns) ?h1 ?h2 ?h3 (textOf_len ns) ?h5 hfv (figOf_le ns) ?_
            case h1 => walk_at "HERE"
            case h2 => walk_at "ROOM"
            case h3 => exact ⟨fun c hc => by have := textOf_at ns c hc; omega, by rw [textOf_len]; decide⟩
            case h5 => exact (kN (D3, LCg.lst fv) (by simp)).1
            intro v9 h17 tk17 ext9 pv9
            obtain ⟨as9, hread⟩ := pv9
            replace kF := frExt kF ext9
            replace kN := newsExt kN ext9
            obtain ⟨as1, r1⟩ := hT4.reads (h := h17) (fun q hq => (kN q (by simp [hq])).1)
            obtain ⟨as2, r2⟩ := hR5.reads (h := h17)
            have n4 := (kN (D4, LCg.lst tv) (by simp)).1
            have n5 := (kN (D5, LCg.lst rv) (by simp)).1
            have n6 := (kN _ (.head _)).1
            have hnm : ∀ p ∈ toldT (textOf ns) (figOf ns), NameOk p.1 := fun p hp => by
              obtain ⟨r, hr9, rfl⟩ := List.mem_map.mp hp
              exact (hpr r hr9).1
            rw [← pure_told (textOf_at ns) (textOf_len ns) (figOf_le ns), ← pure_given (textOf_at ns) (textOf_len ns) (figOf_le ns)] at hread
            refine eq_dataH (da := lawData (toldT (textOf ns) (figOf ns)) ((tabEnd (rd (textOf ns) 0) (figOf ns)).2.map fun g => ((rd g 0 : Nat) : Int))) (.tuple n6 rfl rfl (.cons (.list n4 rfl rfl r1) (.cons (.list n5 rfl rfl r2) .nil))) hread (lawData_shaped hnm) (lawData_shaped hnm) ?hu ?_
            case hu => show un + _ + 64 < 9900; omega
            rw [show PyData.eqv (lawData (toldT (textOf ns) (figOf ns)) ((tabEnd (rd (textOf ns) 0) (figOf ns)).2.map fun g => ((rd g 0 : Nat) : Int))) (PyData.tuple [PyData.list ((toldT (textOf ns) (figOf ns)).map pairD), PyData.list (((tabEnd (rd (textOf ns) 0) (figOf ns)).2.map fun g => ((rd g 0 : Nat) : Int)).map PyData.int)]) = true from PySem.SeqAt.eqv_refl _ (lawData_lay hnm)]
            (try walk_at "STEPSW")
            walk_at "DONE"
            rfl
end
theorem law_holds9 : PySem.Challenge.rw_wo0062_01.Holds := hd (by
  k_fill
  intro w s₀ s₁ mg mb G Y fa o pm cd doc dV kV ho hd9 hcd hD hmg hg args vals as hpre hlay hrd hwl hlo
  have KX := kIn_of Y
  have X := (Ground.X G).1
  have V := (Ground.X G).2
  have GL := glob_more (Ground.glob G (by decide +kernel) (by decide +kernel)) V
  refine Ground.open G ?_
  intro T B D TE TW
  wrow_args hpre hlay hrd hwl hlo
  (with_reducible rename PyProof.Rows.IntsAre _ _ => hI9)
  (rename Heap.IsList _ _ _ => hL9)
  (with_reducible rename ¬ (_ < _) => hc9)
  have hfa : fa = 279 := by
    have e1 : mg (PySem.Str.ofString "law") = some (.ref 279) := mg_of KX T.g (by kernel_rfl)
    have e2 : mg (PySem.Str.ofString "law") = some (.ref fa) := hmg
    rw [e1] at e2
    injection e2 with e2
    injection e2 with e2
    exact e2.symm
  subst hfa
  have hlen := hI9.length
  show wpAny (model PW w) (au (1 + claimMargin) 4 (some []) (some [])) (call (.ref 279) [.ref _]) _ _ s₁
  refine law_spec ⟨KX, topRead_of T⟩ (by decide) hL9 hI9 (by omega) GL.seer (by decide) ?_
  intro v h' tk' ext hv
  subst hv
  refine ⟨.inl ⟨_, .bool true, [], rfl, fun cls => ?hnr, .bool true, ?hpost, fun _ => ⟨.nil, fun _ h => nomatch h⟩⟩, .of_keep ext, rfl, .of_eq hg⟩
  case hnr => rfl
  case hpost => exact postW_of (r := PySem.Challenge.rw_wo0062_01.row.toRowW) rfl (w_eq_bool (w_res rfl) w_lit) rfl)
end Mine
theorem PySem.Challenge.cw_wo0062_01_holds : PySem.Challenge.rw_wo0062_01.Holds := by
  exact Mine.law_holds9
