import PyProof.Rows.All
import Wide.All
import OpenK.AllK
import Wide.FinOn
import PySem.Challenge.RW_mq0234_01
set_option Elab.async false
set_option maxRecDepth 100000
section
open PySem PySem.W PyProof.Rows
namespace Mine
set_option maxRecDepth 100000 in
set_option maxHeartbeats 8000000 in
open_top hd for PySem.Challenge.rw_mq0234_01
end Mine
end
theorem Mine.top_off : True := by w_top off; trivial
open PySem PySem.W PyProof.Rows in
local macro_rules | `(tactic| walk_at $s:str) => `(tactic| k_extra $s)
section
open PySem PySem.W PySem.Spec PySem.Calls PyProof.Rows
namespace Mine

theorem ite_split {b : Bool} {P Q : Prop} (h1 : b = true → P) (h2 : b = false → Q) : if b = true then P else Q := by
  cases b with
  | true => rw [if_pos rfl]; exact h1 rfl
  | false => rw [if_neg Bool.false_ne_true]; exact h2 rfl

/-- what holds where one of the text's defs may be called: a function's frame, the text's own part of the heap, room -/
inductive Can (w : World) (mean : ExcName → Option Value) (mg mb : Str → Option Value) (n : Nat) : Around → Shared → Prop
  | mk {dp un : Nat} {gd : Option (List Code)} {cn : Str} {cs : Scope} {L a : Addr} {ccd : Value} {cl : List (Str × Addr)} {outer : List Env} {A₀ : Around} {base h₀ : Heap} {m : Str → Option Value} {s : Shared}
      (B : Below A₀ base outer h₀) (F : Fr h₀ L s.heap m) (X : (hd.heap_39 w.params).In h₀) (T : Top hd.view_39 (looseW hd.view_39 [Str.ofString "ONE_THIRD", Str.ofString "ONE_SIXTH", Str.ofString "TWO_THIRD"]) mean mg mb h₀)
      (hk : cs.kind = .function) (hd : dp + n < recursionLimit) (hu : un + 8 * n < cLine) : Can w mean mg mb n (ktrTop dp un gd cn cs L a ccd cl outer) s

/-- a call's end: the heap has grown, nothing else has turned -/
def Ends (s : Shared) (Post : Heap → Value → Prop) (v : Value) (s' : Shared) : Prop :=
  ∃ h' tk', s' = { s with heap := h', toks := tk' } ∧ (∀ b o, s.heap.get? b = some o → h'.get? b = some o) ∧ Post h' v

def Does (w : World) (mean : ExcName → Option Value) (mg mb : Str → Option Value) (n : Nat) (f : Addr) (vals : List Value) (s : Shared) (Post : Heap → Value → Prop) : Prop :=
  ∀ A, Can w mean mg mb n A s → wpAny (model PySem.Challenge.rw_mq0234_01.row.prog w) A (call (.ref f) vals) (Ends s Post) (fun _ _ => False) s

theorem enter {w : World} {mean : ExcName → Option Value} {mg mb : Str → Option Value} {n : Nat} {s : Shared} {Post : Heap → Value → Prop}
    {name qual : Str} {params : Arguments} {body : List Stmt} {scope : Scope} {dV kV doc pm cdv ct oc : Value} {an od : Option Addr} {osl : Array (Option Value)} {f : Addr} {vals : List Value} {binds : List (Str × Value)}
    (ho : (hd.heap_39 w.params).lookup f = some ⟨oc, od, .func (fnOf name qual params body scope dV kV doc pm an cdv ct), osl⟩) (hcd : codeIn (hd.heap_39 w.params) cdv qual = true)
    (hbind : BindsTo s (fnOf name qual params body scope dV kV doc pm an cdv ct) ⟨vals, []⟩ binds) (hloc : ∀ y ∈ binds, scope.names.lookup y.1 = some .local)
    (h : ∀ (dp un : Nat) (gd : Option (List Code)) (cn : Str) (cs : Scope) (L₀ a : Addr) (ccd : Value) (cl : List (Str × Addr)) (outer : List Env) (base : Heap) (L : Addr) (h₁ : Heap),
      Below (ktrTop dp un gd cn cs L₀ a ccd cl outer) base (envX cn cs L₀ a ccd cl :: outer) s.heap → Fr s.heap L h₁ (fun y => binds.reverse.lookup y) → News s.heap L h₁ [] → (hd.heap_39 w.params).In s.heap →
      Top hd.view_39 (looseW hd.view_39 [Str.ofString "ONE_THIRD", Str.ofString "ONE_SIXTH", Str.ofString "TWO_THIRD"]) mean mg mb s.heap → dp + n < recursionLimit → un + 8 * n < cLine →
      wpAny (model PySem.Challenge.rw_mq0234_01.row.prog w) ((ktrTop dp un gd cn cs L₀ a ccd cl outer).deeper (envOf qual scope L f cdv)) (execs body (envOf qual scope L f cdv))
        (fun fl s' => Ends s Post (match fl with | .ret v => v | _ => .none) s') (fun _ _ => False) { s with heap := h₁, toks := s.toks + binds.length })
    (hco : scope.isCoroutine = false) (hgen : scope.isGenerator = false) (hk : scope.kind = .function) (hcell : ∀ x ∈ scope.names, x.2 ≠ .cell) :
    Does w mean mg mb n f vals s Post := by
  intro A can
  cases can with
  | @mk dp un gd cn cs L a ccd cl outer A₀ base h₀ m _ B F X T hk' hd' hu' =>
  refine wpAny_call ?_
  refine codeAny_call_def (fd := fnOf name qual params body scope dV kV doc pm an cdv ct) (body := body) (binds := binds) (by show dp < _; omega) (F.keep _ _ (X _ _ ho)) rfl (T.nolimit.keeps F.keep) (codeRec_of (X.keeps F.keep) hcd) rfl hbind hcell hloc (fun h₁ hns hk₁ => ?_) hco hgen hk
  have P := pushX (env := envX cn cs L a ccd cl) B F rfl hk'
  refine wpAny_mono (h dp un gd cn cs L a ccd cl outer base s.heap.objs.size h₁ ⟨rfl, P.stays, P.frames⟩ ⟨hns, hk₁, Nat.le_refl _⟩ News.nil (X.keeps F.keep) (T.keeps F.keep) hd' hu') (fun fl s' hl => hl) (fun _ _ x => x.elim)
end Mine
end
section
open PySem PySem.W PySem.Spec PySem.Calls PyProof.Rows
namespace Mine

/-- an iterator and a for's target: n turns, the i-th value and its heap told by P -/
structure Iter (prog : Program) (w : World) (A : Around) (target : Expr) (I : Addr) (fp wr : List Addr) (n : Nat) (P : Nat → Value → Heap → Prop) (St : Nat → Heap → Prop) : Prop where
  sub : ∀ b ∈ wr, b ∈ fp
  live : ∀ i h, St i h → ∀ b ∈ fp, ∃ o, h.get? b = some o
  frame : ∀ i h h', St i h → (∀ b ∈ fp, ∀ o, h.get? b = some o → h'.get? b = some o) → St i h'
  next : ∀ i (s : Shared) (Q : Value → Shared → Prop) (E : Value → Shared → Prop), i < n → St i s.heap →
    (∀ v h' tk, P i v h' → St (i + 1) h' → (∀ b o, b ∉ wr → s.heap.get? b = some o → h'.get? b = some o) → Q v { s with heap := h', toks := tk }) →
    wpAny (model prog w) A (pyNext (.ref I)) (fun r s₁ => match r with
      | none => False
      | some v => wpAny (model prog w) A (letOwnedTupleGo target (.ref I) v) (fun _ s₂ => Q v s₂) E s₁) E s
  done : ∀ (s : Shared) (Q : Option Value → Shared → Prop) (E : Value → Shared → Prop), St n s.heap →
    (∀ h' tk, (∀ b o, b ∉ wr → s.heap.get? b = some o → h'.get? b = some o) → Q none { s with heap := h', toks := tk }) → wpAny (model prog w) A (pyNext (.ref I)) Q E s
  self : ∀ i (s : Shared) (Q : Value → Shared → Prop) (E : Value → Shared → Prop), St i s.heap → Q (.ref I) s → wpAny (model prog w) A (pyIter (.ref I)) Q E s
  tup : ∀ i h, St i h → ∀ b ∈ wr, ∀ o, h.get? b = some o → o.cls ≠ .type "tuple"

theorem Iter.ofWalks {prog : Program} {w : World} {A : Around} {target : Expr} {I : Addr} {fp wr : List Addr} {n : Nat} {P : Nat → Value → Prop} {St : Nat → Heap → Prop} (W : Walks prog w A I fp wr n P St)
    (live : ∀ i h, St i h → ∀ b ∈ fp, ∃ o, h.get? b = some o) (tup : ∀ i h, St i h → ∀ b ∈ wr, ∀ o, h.get? b = some o → o.cls ≠ .type "tuple")
    (hgo : ∀ i v (s : Shared) (Q : Unit → Shared → Prop) (E : Value → Shared → Prop), St i s.heap → Q () s → wpAny (model prog w) A (letOwnedTupleGo target (.ref I) v) Q E s) :
    Iter prog w A target I fp wr n (fun i v _ => P i v) St where
  sub := W.sub
  live := live
  frame := W.frame
  next := fun i s Q E hi st hQ => W.item i s _ E hi st fun v h' tk hP st' hk => hgo (i + 1) v _ _ E st' (hQ v h' tk hP st' hk)
  done := W.done
  self := W.self
  tup := tup

section
variable {prog : Program} {w : World} {A : Around} {s : Shared} {env : Env} {h₀ : Heap}

theorem loop_code {R : Result → Shared → Prop} {target : Expr} {body : List Stmt} {I : Addr} {fp wr : List Addr} {n : Nat} {P : Nat → Value → Heap → Prop} {St : Nat → Heap → Prop} {m : Str → Option Value}
    {news : List (Addr × Obj)} (W : Iter prog w A target I fp wr n P St)
    (hLf : env.locals ∉ fp) (hwr : ∀ b ∈ wr, h₀.get? b = none) (hnw : ∀ p ∈ news, p.1 ∉ fp)
    (hst : St 0 s.heap) (F : Fr h₀ env.locals s.heap m) (N : News h₀ env.locals s.heap news)
    (J : Nat → (Str → Option Value) → List (Addr × Obj) → Prop) (h0 : J 0 m news)
    (step : ∀ i v m₁ nx h tk own, i < n → P i v h → J i m₁ nx → OwnOff own (nx.map (·.1)) → Fr h₀ env.locals h m₁ → News h₀ env.locals h (nx ++ own) →
      wpAny (model prog w) A (assign target env v) (fun _ s₂ => wpAny (model prog w) A (execs body env) (InvPostG h₀ env.locals (J (i + 1)) own { s with heap := h, toks := tk } fun f s' => R (.ok f) s') (notedBy (model prog w) A env fun e s' => R (.error e) s') s₂)
        (notedBy (model prog w) A env fun e s' => R (.error e) s') { s with heap := h, toks := tk })
    (hR : ∀ h' tk m' nx, Fr h₀ env.locals h' m' → News h₀ env.locals h' nx → J n m' nx → R (.ok .next) { s with heap := h', toks := tk }) :
    codeAny (model prog w) A (.forLoop target (.ref I) body [] env) R s := by
  have hLw : env.locals ∉ wr := fun h => hLf (W.sub _ h)
  have old : ∀ b o, h₀.get? b = some o → b ∉ wr := fun b o e hb => by rw [hwr b hb] at e; cases e
  refine codeAny_forLoop_any
    (fun k s' => ∃ h' tk m' nx i, s' = { s with heap := h', toks := tk } ∧ St i h' ∧ Fr h₀ env.locals h' m' ∧ News h₀ env.locals h' nx ∧ (∀ p ∈ nx, p.1 ∉ fp) ∧ J i m' nx ∧ i ≤ n ∧ k = n + 1 - i) ?_ (n + 1)
    ⟨s.heap, s.toks, m, news, 0, rfl, hst, F, N, hnw, h0, Nat.zero_le _, rfl⟩
  rintro k s' ⟨h', tk, m', nx, i, rfl, hst', F', N', hnw', hJ, hi, rfl⟩
  have nxt : ∀ h₁ : Heap, (∀ b o, b ∉ wr → h'.get? b = some o → h₁.get? b = some o) → Fr h₀ env.locals h₁ m' ∧ News h₀ env.locals h₁ nx := fun h₁ hk₁ =>
    ⟨⟨F'.ns.at' fun o e => hk₁ _ o hLw e, fun b o e => hk₁ b o (old b o e) (F'.keep b o e), F'.above⟩, fun p hp => ⟨hk₁ _ _ (fun q => hnw' p hp (W.sub _ q)) (N' p hp).1, (N' p hp).2⟩⟩
  by_cases hlt : i < n
  · refine wpAny_mono (W.next i _ (fun v s₂ => wpAny (model prog w) A (assign target env v) (fun _ s₂ => wpAny (model prog w) A (execs body env) (fun f s₃ => match f with
            | .next | .cont => ∃ m, m < n + 1 - i ∧ ∃ h' tk m' nx i, s₃ = { s with heap := h', toks := tk } ∧ St i h' ∧ Fr h₀ env.locals h' m' ∧ News h₀ env.locals h' nx ∧ (∀ p ∈ nx, p.1 ∉ fp) ∧ J i m' nx ∧ i ≤ n ∧ m = n + 1 - i
            | .brk => R (.ok .next) s₃
            | .ret v => R (.ok (.ret v)) s₃) (notedBy (model prog w) A env fun e s' => R (.error e) s') s₂) (notedBy (model prog w) A env fun e s' => R (.error e) s') s₂) _ hlt hst' fun v h₁ tk₁ hP hst₁ hk₁ => ?_) (fun r s₁ hr => ?_) fun _ _ e => e
    · obtain ⟨F₁, N₁⟩ := nxt h₁ hk₁
      have Nown : News h₀ env.locals h₁ (ownOf h₀ fp h₁) := news_ownOf hLf
      have hoff : OwnOff (ownOf h₀ fp h₁) (nx.map (·.1)) := by
        intro p hp b hb e
        obtain ⟨q, hq, rfl⟩ := List.mem_map.mp hb
        exact hnw' q hq (e ▸ ownOf_sub p hp)
      refine wpAny_mono (step i v m' nx h₁ tk₁ (ownOf h₀ fp h₁) hlt hP hJ hoff F₁ (N₁.append Nown)) (fun _ s₂ h₂ => wpAny_mono h₂ (fun f s₃ h₃ => ?_) fun _ _ e => e) fun _ _ e => e
      have fin : InvEndG h₀ env.locals (J (i + 1)) (ownOf h₀ fp h₁) { s with heap := h₁, toks := tk₁ } s₃ → ∃ m, m < n + 1 - i ∧ ∃ h' tk m' nx i, s₃ = { s with heap := h', toks := tk } ∧ St i h' ∧ Fr h₀ env.locals h' m' ∧ News h₀ env.locals h' nx ∧ (∀ p ∈ nx, p.1 ∉ fp) ∧ J i m' nx ∧ i ≤ n ∧ m = n + 1 - i := by
        rintro ⟨h₃', tk₃, m₃, news₃, nx₃, rfl, F₃, N₃, hn₃, ho₃, ha₃, hJ₃⟩
        refine ⟨n + 1 - (i + 1), by omega, h₃', tk₃, m₃, nx₃, i + 1, rfl, ?_, F₃, fun p hp => N₃ p (hn₃ p hp), ?_, hJ₃, hlt, rfl⟩
        · refine W.frame _ _ _ hst₁ fun b hb o e => ?_
          cases hn : h₀.get? b with
          | some o₀ =>
            have : o₀ = o := by have := F₁.keep b o₀ hn; rw [e] at this; exact (Option.some.inj this).symm
            exact this ▸ F₃.keep b o₀ hn
          | none => exact (N₃ _ (ho₃ _ (mem_ownOf hb hn e))).1
        · intro p hp hb
          obtain ⟨o, ho⟩ := W.live _ _ hst₁ _ hb
          exact ha₃ _ (mem_ownOf hb (N₃ p (hn₃ p hp)).2.2 ho) p.1 (List.mem_map.mpr ⟨p, hp, rfl⟩) rfl
      cases f with
      | ret v => exact h₃
      | brk => exact h₃
      | cont => exact fin h₃
      | next => exact fin h₃
    · cases r with
      | none => exact hr.elim
      | some v => exact hr
  · have hin : i = n := by omega
    subst hin
    refine W.done _ _ _ hst' fun h₁ tk₁ hk₁ => wpAny_execs_nil ?_
    obtain ⟨F₁, N₁⟩ := nxt h₁ hk₁
    exact hR h₁ tk₁ m' nx F₁ N₁ hJ

/-- a for, opened: what must be shown where its iterator has been made -/
def LoopT (prog : Program) (w : World) (A : Around) (env : Env) (target : Expr) (body : List Stmt) (Q : Flow → Shared → Prop) (E : Value → Shared → Prop) (it : Value) (s₂ : Shared) : Prop :=
  codeAny (model prog w) A (.forLoop target it body [] env) (fun r s' => match r with | .ok f => Q f s' | .error e => cameBackBy (model prog w) A env E e s') s₂

theorem for_open {E : Value → Shared → Prop} {Q : Flow → Shared → Prop} {target : Expr} {pos : Pos} {iter : Expr} {body : List Stmt}
    (h : wpAny (model prog w) A (eval iter env) (fun xv s₁ => wpAny (model prog w) A (pyIter xv) (fun it s₂ => LoopT prog w A env target body Q E it s₂) E s₁) E s)
    (hs : ∀ x, foldedSetIterable iter env x = pure x) :
    wpAny (model prog w) A (exec (.For target iter body [] pos) env) Q E s := wpAny_For h hs

theorem loop_run {E : Value → Shared → Prop} {Q : Flow → Shared → Prop} {target : Expr} {body : List Stmt} {I : Addr} {fp wr : List Addr} {n : Nat} {P : Nat → Value → Heap → Prop} {St : Nat → Heap → Prop} {m : Str → Option Value}
    {news : List (Addr × Obj)} (W : Iter prog w A target I fp wr n P St)
    (hLf : env.locals ∉ fp) (hwr : ∀ b ∈ wr, h₀.get? b = none) (hnw : ∀ p ∈ news, p.1 ∉ fp)
    (hst : St 0 s.heap) (F : Fr h₀ env.locals s.heap m) (N : News h₀ env.locals s.heap news)
    (J : Nat → (Str → Option Value) → List (Addr × Obj) → Prop) (h0 : J 0 m news)
    (step : ∀ i v m₁ nx h tk own, i < n → P i v h → J i m₁ nx → OwnOff own (nx.map (·.1)) → Fr h₀ env.locals h m₁ → News h₀ env.locals h (nx ++ own) →
      wpAny (model prog w) A (assign target env v) (fun _ s₂ => wpAny (model prog w) A (execs body env) (InvPostG h₀ env.locals (J (i + 1)) own { s with heap := h, toks := tk } Q) E s₂) E { s with heap := h, toks := tk })
    (done : ∀ h' tk m' nx, Fr h₀ env.locals h' m' → News h₀ env.locals h' nx → J n m' nx → Q .next { s with heap := h', toks := tk })
    (hE : PassesOwn (model prog w) A env E) : LoopT prog w A env target body Q E (.ref I) s :=
  loop_code W hLf hwr hnw hst F N J h0 (fun i v m₁ nx h tk own a b c d e f => wpAny_mono (wpAny_passesOwn hE (step i v m₁ nx h tk own a b c d e f)) (fun _ _ x => wpAny_passesOwn hE x) fun _ _ x => x) done
end
end Mine
end
section
open PySem PySem.W PySem.Spec PySem.Calls PyProof.Rows
namespace Mine

theorem fr_grow {h₀ h h' : Heap} {L : Addr} {m : Str → Option Value} (F : Fr h₀ L h m) (k : ∀ b o, h.get? b = some o → h'.get? b = some o) : Fr h₀ L h' m :=
  ⟨F.ns.keeps k, fun b o e => k b o (F.keep b o e), F.above⟩
theorem news_grow {h₀ h h' : Heap} {L : Addr} {news : List (Addr × Obj)} (N : News h₀ L h news) (k : ∀ b o, h.get? b = some o → h'.get? b = some o) : News h₀ L h' news :=
  fun p hp => ⟨k _ _ (N p hp).1, (N p hp).2⟩
/-- an object that a call has made, onto the ledger -/
theorem news_add {h₀ h h' : Heap} {L a : Addr} {o : Obj} {m : Str → Option Value} {news : List (Addr × Obj)} (F : Fr h₀ L h m) (N : News h₀ L h news) (k : ∀ b o, h.get? b = some o → h'.get? b = some o)
    (ha : h'.get? a = some o) (hn : h.get? a = none) : News h₀ L h' ((a, o) :: news) := by
  intro p hp
  rcases List.mem_cons.mp hp with rfl | hp
  · refine ⟨ha, fun e => ?_, ?_⟩
    · obtain ⟨oL, _, _, hL, _⟩ := F.ns
      dsimp only at e
      rw [e, hL] at hn; cases hn
    · cases q : h₀.get? a with
      | none => rfl
      | some o' => rw [F.keep _ _ q] at hn; cases hn
  · exact news_grow N k p hp

def fgt (a b : UInt64) : Bool := Float64.cmp a b == some Ordering.gt
def flt (a b : UInt64) : Bool := Float64.cmp a b == some Ordering.lt
def max3 (a b c : UInt64) : UInt64 := if fgt b a then (if fgt c b then c else b) else (if fgt c a then c else a)
def min3 (a b c : UInt64) : UInt64 := if flt b a then (if flt c b then c else b) else (if flt c a then c else a)

def valF (xs : Array (UInt64 × Tok)) : Array Value := xs.map fun p => .float p.1 p.2
def bitF (xs : Array (UInt64 × Tok)) (i : Nat) : UInt64 := (xs[i]?.map (·.1)).getD 0
theorem valF_at {xs : Array (UInt64 × Tok)} {i : Nat} {v : Value} (h : (valF xs)[i]? = some v) : ∃ t, v = .float (bitF xs i) t := by
  unfold valF at h
  rw [Array.getElem?_map] at h
  unfold bitF
  cases q : xs[i]? with
  | none => rw [q] at h; cases h
  | some p => rw [q] at h; cases h; exact ⟨_, rfl⟩

section
variable {prog : Program} {w : World} {A : Around} {E : Value → Shared → Prop} {s : Shared}
theorem cmp_floats_gt {P : Nat → Value → Prop} (val : Nat → UInt64) (hval : ∀ i v, P i v → ∃ t, v = .float (val i) t) : CmpOf prog w A .Gt P (fun i j => fgt (val i) (val j)) := fun i j vi vj s Q E hi hj h => by
  obtain ⟨t, rfl⟩ := hval i vi hi
  obtain ⟨u, rfl⟩ := hval j vj hj
  exact (AutoFloatOps.gt_0 h : wpAny (model prog w) A (compareOp .Gt _ _) Q E s)
theorem cmp_floats_lt {P : Nat → Value → Prop} (val : Nat → UInt64) (hval : ∀ i v, P i v → ∃ t, v = .float (val i) t) : CmpOf prog w A .Lt P (fun i j => flt (val i) (val j)) := fun i j vi vj s Q E hi hj h => by
  obtain ⟨t, rfl⟩ := hval i vi hi
  obtain ⟨u, rfl⟩ := hval j vj hj
  exact (AutoFloatOps.lt_0 h : wpAny (model prog w) A (compareOp .Lt _ _) Q E s)

theorem three_fp {d : Addr} {o₁ o₂ : Obj} (hd : d ∈ [(s.heap.push o₁).objs.size, s.heap.objs.size]) : d < ((s.heap.push o₁).push o₂).objs.size := by
  rw [Heap.size_push, Heap.size_push]
  rcases List.mem_cons.mp hd with rfl | hd
  · rw [Heap.size_push]; exact Nat.lt_succ_self _
  · rcases List.mem_cons.mp hd with rfl | hd
    · exact Nat.lt_succ_of_lt (Nat.lt_succ_self _)
    · cases hd
theorem three_old {o₁ o₂ : Obj} {h' : Heap} (hk : ∀ b o, b ∉ [(s.heap.push o₁).objs.size] → ((s.heap.push o₁).push o₂).get? b = some o → h'.get? b = some o) : ∀ d o, s.heap.get? d = some o → h'.get? d = some o := fun d o e => by
  refine hk d o (fun hm => ?_) (Heap.get?_push_of_some _ (Heap.get?_push_of_some _ e))
  rcases List.mem_cons.mp hm with e1 | hm
  · have := Heap.lt_size e; rw [e1, Heap.size_push] at this; exact Nat.lt_irrefl _ (Nat.lt_of_succ_lt this)
  · cases hm

theorem max_floats {a b c : UInt64} {t u x : Tok} {Q : Value → Shared → Prop} (hh : A.handled = none)
    (h : ∀ h' tk t', (∀ d o, s.heap.get? d = some o → h'.get? d = some o) → Q (.float (max3 a b c) t') { s with heap := h', toks := tk }) :
    wpAny (model prog w) A (call (.builtin "max") [.float a t, .float b u, .float c x]) Q E s := by
  have hT : (s.heap.push { cls := .type "tuple", data := .seq #[.float a t, .float b u, .float c x] }).IsTuple s.heap.objs.size (valF #[(a, t), (b, u), (c, x)]) := ⟨_, Heap.get?_push_size _ rfl, rfl, 0, by simp [valF]⟩
  refine call_max_three (wpAny_pyIter_tuple hT ?_)
  refine ⟨_, [_, s.heap.objs.size], [_], _, _, _, _, rfl, Walks.tuple (A := A.in1) hh _ s.heap.objs.size (by rw [Heap.size_push]; exact Nat.ne_of_lt (Nat.lt_succ_self _)) (valF #[(a, t), (b, u), (c, x)]),
    ⟨⟨_, Heap.get?_push_size _ rfl, rfl, rfl⟩, hT.push _⟩, fun d hd => three_fp hd, by simp [valF], cmp_floats_gt (bitF #[(a, t), (b, u), (c, x)]) (fun _ _ => valF_at), fun v h' tk hP hk => ?_⟩
  obtain ⟨t', rfl⟩ := valF_at hP
  have e : bitF #[(a, t), (b, u), (c, x)] (argBest (fun i j => fgt (bitF #[(a, t), (b, u), (c, x)] i) (bitF #[(a, t), (b, u), (c, x)] j)) ((valF #[(a, t), (b, u), (c, x)]).size - 1)) = max3 a b c := by
    have : (valF #[(a, t), (b, u), (c, x)]).size - 1 = 2 := by simp [valF]
    rw [this]
    cases h1 : fgt b a <;> cases h2 : fgt c b <;> cases h3 : fgt c a <;> simp [argBest, bitF, max3, h1, h2, h3]
  rw [e]
  exact h h' tk t' (three_old hk)
theorem min_floats {a b c : UInt64} {t u x : Tok} {Q : Value → Shared → Prop} (hh : A.handled = none)
    (h : ∀ h' tk t', (∀ d o, s.heap.get? d = some o → h'.get? d = some o) → Q (.float (min3 a b c) t') { s with heap := h', toks := tk }) :
    wpAny (model prog w) A (call (.builtin "min") [.float a t, .float b u, .float c x]) Q E s := by
  have hT : (s.heap.push { cls := .type "tuple", data := .seq #[.float a t, .float b u, .float c x] }).IsTuple s.heap.objs.size (valF #[(a, t), (b, u), (c, x)]) := ⟨_, Heap.get?_push_size _ rfl, rfl, 0, by simp [valF]⟩
  refine call_min_three (wpAny_pyIter_tuple hT ?_)
  refine ⟨_, [_, s.heap.objs.size], [_], _, _, _, _, rfl, Walks.tuple (A := A.in1) hh _ s.heap.objs.size (by rw [Heap.size_push]; exact Nat.ne_of_lt (Nat.lt_succ_self _)) (valF #[(a, t), (b, u), (c, x)]),
    ⟨⟨_, Heap.get?_push_size _ rfl, rfl, rfl⟩, hT.push _⟩, fun d hd => three_fp hd, by simp [valF], cmp_floats_lt (bitF #[(a, t), (b, u), (c, x)]) (fun _ _ => valF_at), fun v h' tk hP hk => ?_⟩
  obtain ⟨t', rfl⟩ := valF_at hP
  have e : bitF #[(a, t), (b, u), (c, x)] (argBest (fun i j => flt (bitF #[(a, t), (b, u), (c, x)] i) (bitF #[(a, t), (b, u), (c, x)] j)) ((valF #[(a, t), (b, u), (c, x)]).size - 1)) = min3 a b c := by
    have : (valF #[(a, t), (b, u), (c, x)]).size - 1 = 2 := by simp [valF]
    rw [this]
    cases h1 : flt b a <;> cases h2 : flt c b <;> cases h3 : flt c a <;> simp [argBest, bitF, min3, h1, h2, h3]
  rw [e]
  exact h h' tk t' (three_old hk)
end
section
variable {prog : Program} {w : World} {A : Around} {E : Value → Shared → Prop} {s : Shared} {h₀ : Heap} {L : Addr} {m : Str → Option Value} {news : List (Addr × Obj)}
theorem max_floatsN {a b c : UInt64} {t u x : Tok} {Q : Value → Shared → Prop} (hh : A.handled = none) (F : Fr h₀ L s.heap m) (N : News h₀ L s.heap news)
    (h : ∀ h' tk t', Fr h₀ L h' m → News h₀ L h' news → Q (.float (max3 a b c) t') { s with heap := h', toks := tk }) :
    wpAny (model prog w) A (call (.builtin "max") [.float a t, .float b u, .float c x]) Q E s := max_floats hh fun h' tk t' k => h h' tk t' (fr_grow F k) (news_grow N k)
theorem min_floatsN {a b c : UInt64} {t u x : Tok} {Q : Value → Shared → Prop} (hh : A.handled = none) (F : Fr h₀ L s.heap m) (N : News h₀ L s.heap news)
    (h : ∀ h' tk t', Fr h₀ L h' m → News h₀ L h' news → Q (.float (min3 a b c) t') { s with heap := h', toks := tk }) :
    wpAny (model prog w) A (call (.builtin "min") [.float a t, .float b u, .float c x]) Q E s := min_floats hh fun h' tk t' k => h h' tk t' (fr_grow F k) (news_grow N k)
end
end Mine
end
section
open PySem PySem.W PySem.Spec PySem.Calls PyProof.Rows
namespace Mine
theorem use {w : World} {mean : ExcName → Option Value} {mg mb : Str → Option Value} {n : Nat} {f : Addr} {vals : List Value} {s : Shared} {Post : Heap → Value → Prop} (D : Does w mean mg mb n f vals s Post)
    {dp un : Nat} {gd : Option (List Code)} {cn : Str} {cs : Scope} {L a : Addr} {ccd : Value} {cl : List (Str × Addr)} {outer : List Env} {A₀ : Around} {base h₀ : Heap} {m : Str → Option Value} {news : List (Addr × Obj)} {Q E : Value → Shared → Prop}
    (B : Below A₀ base outer h₀) (F : Fr h₀ L s.heap m) (X : (hd.heap_39 w.params).In h₀) (T : Top hd.view_39 (looseW hd.view_39 [Str.ofString "ONE_THIRD", Str.ofString "ONE_SIXTH", Str.ofString "TWO_THIRD"]) mean mg mb h₀)
    (N : News h₀ L s.heap news) (hk : cs.kind = .function) (hd : dp + n < recursionLimit) (hu : un + 8 * n < cLine)
    (h : ∀ r h' tk', Fr h₀ L h' m → News h₀ L h' news → (∀ b o, s.heap.get? b = some o → h'.get? b = some o) → Post h' r → Q r { s with heap := h', toks := tk' }) :
    wpAny (model PySem.Challenge.rw_mq0234_01.row.prog w) (ktrTop dp un gd cn cs L a ccd cl outer) (call (.ref f) vals) Q E s := by
  refine wpAny_mono (D _ (Can.mk B F X T hk hd hu)) ?_ (fun _ _ x => x.elim)
  rintro r s' ⟨h', tk', rfl, k, p⟩
  exact h r h' tk' (fr_grow F k) (news_grow N k) k p

theorem ends_val {s : Shared} {Post : Heap → Value → Prop} {h' : Heap} {tk' : Nat} {L : Addr} {m : Str → Option Value} {v : Value} (F : Fr s.heap L h' m) (p : Post h' v) : Ends s Post v { s with heap := h', toks := tk' } :=
  ⟨h', tk', rfl, F.keep, p⟩
theorem ends_obj {s : Shared} {Post : Heap → Value → Prop} {h' : Heap} {tk' : Nat} {L a : Addr} {o : Obj} {m : Str → Option Value} {rest : List (Addr × Obj)} (F : Fr s.heap L h' m) (N : News s.heap L h' ((a, o) :: rest))
    (p : h'.get? a = some o → s.heap.get? a = none → Post h' (.ref a)) : Ends s Post (.ref a) { s with heap := h', toks := tk' } :=
  ⟨h', tk', rfl, F.keep, p (N _ (.head _)).1 (N _ (.head _)).2.2⟩

theorem ends_float {s : Shared} {h' : Heap} {tk' : Nat} {L : Addr} {m : Str → Option Value} {x y : UInt64} {t : Tok} (F : Fr s.heap L h' m) (e : x = y) : Ends s (fun _ v => ∃ t, v = .float x t) (.float y t) { s with heap := h', toks := tk' } :=
  ends_val F ⟨t, by rw [e]⟩
theorem ends_int {s : Shared} {h' : Heap} {tk' : Nat} {L : Addr} {m : Str → Option Value} {x y : Int} {t : Tok} (F : Fr s.heap L h' m) (e : x = y) : Ends s (fun _ v => ∃ t, v = .int x t) (.int y t) { s with heap := h', toks := tk' } :=
  ends_val F ⟨t, by rw [e]⟩
theorem ends_str {s : Shared} {h' : Heap} {tk' : Nat} {L : Addr} {m : Str → Option Value} {x y : Str} {t : Tok} (F : Fr s.heap L h' m) (e : x = y) : Ends s (fun _ v => ∃ t, v = .str x t) (.str y t) { s with heap := h', toks := tk' } :=
  ends_val F ⟨t, by rw [e]⟩

/-- a new tuple of three floats -/
def Tup3F (s : Shared) (x : UInt64 × UInt64 × UInt64) (h' : Heap) (v : Value) : Prop :=
  ∃ a t1 t2 t3, v = .ref a ∧ h'.get? a = some { cls := .type "tuple", data := .seq #[.float x.1 t1, .float x.2.1 t2, .float x.2.2 t3] } ∧ s.heap.get? a = none
theorem ends_tup3 {s : Shared} {h' : Heap} {tk' : Nat} {L a : Addr} {m : Str → Option Value} {rest : List (Addr × Obj)} {x : UInt64 × UInt64 × UInt64} {y1 y2 y3 : UInt64} {t1 t2 t3 : Tok} (F : Fr s.heap L h' m)
    (N : News s.heap L h' ((a, { cls := .type "tuple", data := .seq #[.float y1 t1, .float y2 t2, .float y3 t3] }) :: rest)) (e : x = (y1, y2, y3)) : Ends s (Tup3F s x) (.ref a) { s with heap := h', toks := tk' } := by
  subst e
  exact ends_obj F N fun h1 h2 => ⟨a, t1, t2, t3, rfl, h1, h2⟩

def feq (a b : UInt64) : Bool := Float64.cmp a b == some Ordering.eq
def fle (a b : UInt64) : Bool := Float64.cmp a b == some Ordering.lt || Float64.cmp a b == some Ordering.eq

def vF (m1 m2 hue : UInt64) : UInt64 :=
  let q := (Float64.divmod hue 4607182418800017408).snd
  if flt q 4595172819793696085 then Float64.add m1 (Float64.mul (Float64.mul (Float64.sub m2 m1) q) 4618441417868443648)
  else if flt q 4602678819172646912 then m2
  else if flt q 4604180019048437077 then Float64.add m1 (Float64.mul (Float64.mul (Float64.sub m2 m1) (Float64.sub 4604180019048437077 q)) 4618441417868443648)
  else m1
def hueF (r g b : UInt64) : UInt64 :=
  let mx := max3 r g b
  let rg := Float64.sub mx (min3 r g b)
  let rc := Float64.div (Float64.sub mx r) rg
  let gc := Float64.div (Float64.sub mx g) rg
  let bc := Float64.div (Float64.sub mx b) rg
  let h := if feq r mx then Float64.sub bc gc else if feq g mx then Float64.sub (Float64.add 4611686018427387904 rc) bc else Float64.sub (Float64.add 4616189618054758400 gc) rc
  (Float64.divmod (Float64.div h 4618441417868443648) 4607182418800017408).snd
def hlsL (r g b : UInt64) : UInt64 := Float64.div (Float64.add (max3 r g b) (min3 r g b)) 4611686018427387904
def hlsF (r g b : UInt64) : UInt64 × UInt64 × UInt64 :=
  if feq (min3 r g b) (max3 r g b) then (0, hlsL r g b, 0)
  else (hueF r g b, hlsL r g b, if fle (hlsL r g b) 4602678819172646912 then Float64.div (Float64.sub (max3 r g b) (min3 r g b)) (Float64.add (max3 r g b) (min3 r g b))
    else Float64.div (Float64.sub (max3 r g b) (min3 r g b)) (Float64.sub (Float64.sub 4611686018427387904 (max3 r g b)) (min3 r g b)))
def hlsOk (r g b : UInt64) : Bool := feq (min3 r g b) (max3 r g b) || (!Float64.isZero (Float64.sub (max3 r g b) (min3 r g b)) &&
  (if fle (hlsL r g b) 4602678819172646912 then !Float64.isZero (Float64.add (max3 r g b) (min3 r g b)) else !Float64.isZero (Float64.sub (Float64.sub 4611686018427387904 (max3 r g b)) (min3 r g b))))
def hsvF (r g b : UInt64) : UInt64 × UInt64 × UInt64 :=
  if feq (min3 r g b) (max3 r g b) then (0, 0, max3 r g b)
  else (hueF r g b, Float64.div (Float64.sub (max3 r g b) (min3 r g b)) (max3 r g b), max3 r g b)
def hsvOk (r g b : UInt64) : Bool := feq (min3 r g b) (max3 r g b) || (!Float64.isZero (Float64.sub (max3 r g b) (min3 r g b)) && !Float64.isZero (max3 r g b))
/-- a divisor that is no zero where the tests before it have come out so -/
structure Nz (c : Bool) (b : UInt64) : Prop where
  out : c = false → Float64.isZero b = false
structure NzT (c d : Bool) (b : UInt64) : Prop where
  out : c = false → d = true → Float64.isZero b = false
structure NzF (c d : Bool) (b : UInt64) : Prop where
  out : c = false → d = false → Float64.isZero b = false
section
variable {prog : Program} {w : World} {A : Around} {E : Value → Shared → Prop} {s : Shared} {Q : Value → Shared → Prop} {a b : UInt64} {t u : Tok}
theorem div_nz (hz : Float64.isZero b = false) (h : Q (.float (Float64.div a b) s.toks) { s with toks := s.toks + 1 }) : wpAny (model prog w) A (binaryOp .Div (.float a t) (.float b u)) Q E s :=
  AutoFloatOps.truediv_1 (by rw [hz]; exact Bool.false_ne_true) h
theorem mod_nz (hz : Float64.isZero b = false) (h : Q (.float (Float64.divmod a b).snd s.toks) { s with toks := s.toks + 1 }) : wpAny (model prog w) A (binaryOp .Mod (.float a t) (.float b u)) Q E s :=
  AutoFloatOps.mod_1 (by rw [hz]; exact Bool.false_ne_true) h
end
theorem z_one : Float64.isZero 4607182418800017408 = false := by decide +kernel
theorem z_two : Float64.isZero 4611686018427387904 = false := by decide +kernel
theorem z_six : Float64.isZero 4618441417868443648 = false := by decide +kernel
theorem hls_nz {r g b : UInt64} (ok : hlsOk r g b = true) : Nz (feq (min3 r g b) (max3 r g b)) (Float64.sub (max3 r g b) (min3 r g b)) ∧ NzT (feq (min3 r g b) (max3 r g b)) (fle (hlsL r g b) 4602678819172646912) (Float64.add (max3 r g b) (min3 r g b)) ∧
    NzF (feq (min3 r g b) (max3 r g b)) (fle (hlsL r g b) 4602678819172646912) (Float64.sub (Float64.sub 4611686018427387904 (max3 r g b)) (min3 r g b)) := by
  unfold hlsOk at ok
  refine ⟨⟨fun h => ?_⟩, ⟨fun h k => ?_⟩, ⟨fun h k => ?_⟩⟩
  · rw [h] at ok; simp at ok; exact ok.1
  · rw [h, k] at ok; simp at ok; exact ok.2
  · rw [h, k] at ok; simp at ok; exact ok.2
theorem hsv_nz {r g b : UInt64} (ok : hsvOk r g b = true) : Nz (feq (min3 r g b) (max3 r g b)) (Float64.sub (max3 r g b) (min3 r g b)) ∧ Nz (feq (min3 r g b) (max3 r g b)) (max3 r g b) := by
  unfold hsvOk at ok
  refine ⟨⟨fun h => ?_⟩, ⟨fun h => ?_⟩⟩
  · rw [h] at ok; simp at ok; exact ok.1
  · rw [h] at ok; simp at ok; exact ok.2
end Mine
end
section
open PySem PySem.W PySem.Spec PySem.Calls PyProof.Rows
namespace Mine
theorem fillF1 (w : World) (h : Heap) : ∀ (_ : (hd.heap_39 w.params).In h) (_ : PySem.Challenge.rw_mq0234_01 = PySem.Challenge.rw_mq0234_01), True := by k_fill; intros; trivial
set_option maxHeartbeats 4000000 in
theorem v_does {w : World} {mean : ExcName → Option Value} {mg mb : Str → Option Value} {s : Shared} {m1 m2 hue : UInt64} {t_m1 t_m2 t_hue : Tok} : Does w mean mg mb 1 47 [.float m1 t_m1, .float m2 t_m2, .float hue t_hue] s (fun _ v => ∃ t, v = .float (vF m1 m2 hue) t) := by
  k_with_none
  k_with "call builtin:max" => (((with_reducible show wpAny _ _ (call (Value.builtin _) [Value.float _ _, Value.float _ _, Value.float _ _]) _ _ _); (with_reducible refine' max_floatsN (by k_dflt (exact rfl)) (by k_dflt (k_asm)) (by k_dflt (k_asm)) ?_); k_whole; intro h9Wq tk9Wq t9Wq F9Wq N9Wq; (try k_sweep)))
  k_with "call builtin:min" => (((with_reducible show wpAny _ _ (call (Value.builtin _) [Value.float _ _, Value.float _ _, Value.float _ _]) _ _ _); (with_reducible refine' min_floatsN (by k_dflt (exact rfl)) (by k_dflt (k_asm)) (by k_dflt (k_asm)) ?_); k_whole; intro h9Wq tk9Wq t9Wq F9Wq N9Wq; (try k_sweep)))
  k_with "ite" => (((with_reducible show ite (_ = true) _ _); (with_reducible refine ite_split ?_ ?_) <;> intro _))
  k_with "ite" => ((k_closed; (first | (with_reducible refine ite_neg (by k_dflt (decide)) ?_) | (with_reducible refine ite_pos (by k_dflt (decide)) ?_))))
  k_with "binaryOp Div float float" => (((with_reducible refine div_nz (by k_dflt (first | with_reducible exact z_six | with_reducible exact z_two | with_reducible exact Nz.out (by assumption) (by assumption) | with_reducible exact NzT.out (by assumption) (by assumption) (by assumption) | with_reducible exact NzF.out (by assumption) (by assumption) (by assumption))) ?_)))
  k_with "binaryOp Mod float float" => (((with_reducible refine mod_nz (by k_dflt (with_reducible exact z_one)) ?_)))
  k_dflt (refine' enter (binds := [(Str.ofString "m1", .float m1 t_m1), (Str.ofString "m2", .float m2 t_m2), (Str.ofString "hue", .float hue t_hue)]) ?k6 ?k7 ?k9 ?kB ?_ ?c2 ?c3 ?c4 ?c5; (case k6 => k_is); (case k7 => k_is); (case k9 => exact BindsTo.of_eq rfl); (case c5 => decide); (case kB => exact locs rfl); (case c2 => exact rfl); (case c3 => exact rfl); (case c4 => exact rfl); k_whole; intro dp' un' gd' cn' cs' L0' a' ccd' cl' outer' base' L' h' B' F' N' X' T' hd' hu'; (try dsimp only); (try k_fold))
  k_steps
  all_goals (refine ends_float (by assumption) ?_; simp only [vF, flt, *, if_true, if_false, Bool.false_eq_true])
set_option maxHeartbeats 4000000 in
theorem rgb_to_hls_does {w : World} {mean : ExcName → Option Value} {mg mb : Str → Option Value} {s : Shared} {r g b : UInt64} {t_r t_g t_b : Tok} (ok : hlsOk r g b = true) : Does w mean mg mb 1 33 [.float r t_r, .float g t_g, .float b t_b] s (Tup3F s (hlsF r g b)) := by
  k_with_none
  k_with "call builtin:max" => (((with_reducible show wpAny _ _ (call (Value.builtin _) [Value.float _ _, Value.float _ _, Value.float _ _]) _ _ _); (with_reducible refine' max_floatsN (by k_dflt (exact rfl)) (by k_dflt (k_asm)) (by k_dflt (k_asm)) ?_); k_whole; intro h9Wq tk9Wq t9Wq F9Wq N9Wq; (try k_sweep)))
  k_with "call builtin:min" => (((with_reducible show wpAny _ _ (call (Value.builtin _) [Value.float _ _, Value.float _ _, Value.float _ _]) _ _ _); (with_reducible refine' min_floatsN (by k_dflt (exact rfl)) (by k_dflt (k_asm)) (by k_dflt (k_asm)) ?_); k_whole; intro h9Wq tk9Wq t9Wq F9Wq N9Wq; (try k_sweep)))
  k_with "ite" => (((with_reducible show ite (_ = true) _ _); (with_reducible refine ite_split ?_ ?_) <;> intro _))
  k_with "ite" => ((k_closed; (first | (with_reducible refine ite_neg (by k_dflt (decide)) ?_) | (with_reducible refine ite_pos (by k_dflt (decide)) ?_))))
  k_with "binaryOp Div float float" => (((with_reducible refine div_nz (by k_dflt (first | with_reducible exact z_six | with_reducible exact z_two | with_reducible exact Nz.out (by assumption) (by assumption) | with_reducible exact NzT.out (by assumption) (by assumption) (by assumption) | with_reducible exact NzF.out (by assumption) (by assumption) (by assumption))) ?_)))
  k_with "binaryOp Mod float float" => (((with_reducible refine mod_nz (by k_dflt (with_reducible exact z_one)) ?_)))
  obtain ⟨z1, z2, z3⟩ := hls_nz ok
  unfold feq at z1; unfold feq fle hlsL at z2 z3
  k_dflt (refine' enter (binds := [(Str.ofString "r", .float r t_r), (Str.ofString "g", .float g t_g), (Str.ofString "b", .float b t_b)]) ?k6 ?k7 ?k9 ?kB ?_ ?c2 ?c3 ?c4 ?c5; (case k6 => k_is); (case k7 => k_is); (case k9 => exact BindsTo.of_eq rfl); (case c5 => decide); (case kB => exact locs rfl); (case c2 => exact rfl); (case c3 => exact rfl); (case c4 => exact rfl); k_whole; intro dp' un' gd' cn' cs' L0' a' ccd' cl' outer' base' L' h' B' F' N' X' T' hd' hu'; (try dsimp only); (try k_fold))
  k_steps
  all_goals (refine ends_tup3 (by assumption) (by assumption) ?_; simp only [hlsF, hlsL, hueF, feq, fle, *, if_true, if_false, Bool.false_eq_true])
set_option maxHeartbeats 4000000 in
theorem rgb_to_hsv_does {w : World} {mean : ExcName → Option Value} {mg mb : Str → Option Value} {s : Shared} {r g b : UInt64} {t_r t_g t_b : Tok} (ok : hsvOk r g b = true) : Does w mean mg mb 1 54 [.float r t_r, .float g t_g, .float b t_b] s (Tup3F s (hsvF r g b)) := by
  k_with_none
  k_with "call builtin:max" => (((with_reducible show wpAny _ _ (call (Value.builtin _) [Value.float _ _, Value.float _ _, Value.float _ _]) _ _ _); (with_reducible refine' max_floatsN (by k_dflt (exact rfl)) (by k_dflt (k_asm)) (by k_dflt (k_asm)) ?_); k_whole; intro h9Wq tk9Wq t9Wq F9Wq N9Wq; (try k_sweep)))
  k_with "call builtin:min" => (((with_reducible show wpAny _ _ (call (Value.builtin _) [Value.float _ _, Value.float _ _, Value.float _ _]) _ _ _); (with_reducible refine' min_floatsN (by k_dflt (exact rfl)) (by k_dflt (k_asm)) (by k_dflt (k_asm)) ?_); k_whole; intro h9Wq tk9Wq t9Wq F9Wq N9Wq; (try k_sweep)))
  k_with "ite" => (((with_reducible show ite (_ = true) _ _); (with_reducible refine ite_split ?_ ?_) <;> intro _))
  k_with "ite" => ((k_closed; (first | (with_reducible refine ite_neg (by k_dflt (decide)) ?_) | (with_reducible refine ite_pos (by k_dflt (decide)) ?_))))
  k_with "binaryOp Div float float" => (((with_reducible refine div_nz (by k_dflt (first | with_reducible exact z_six | with_reducible exact z_two | with_reducible exact Nz.out (by assumption) (by assumption) | with_reducible exact NzT.out (by assumption) (by assumption) (by assumption) | with_reducible exact NzF.out (by assumption) (by assumption) (by assumption))) ?_)))
  k_with "binaryOp Mod float float" => (((with_reducible refine mod_nz (by k_dflt (with_reducible exact z_one)) ?_)))
  obtain ⟨z1, z2⟩ := hsv_nz ok
  unfold feq at z1 z2
  k_dflt (refine' enter (binds := [(Str.ofString "r", .float r t_r), (Str.ofString "g", .float g t_g), (Str.ofString "b", .float b t_b)]) ?k6 ?k7 ?k9 ?kB ?_ ?c2 ?c3 ?c4 ?c5; (case k6 => k_is); (case k7 => k_is); (case k9 => exact BindsTo.of_eq rfl); (case c5 => decide); (case kB => exact locs rfl); (case c2 => exact rfl); (case c3 => exact rfl); (case c4 => exact rfl); k_whole; intro dp' un' gd' cn' cs' L0' a' ccd' cl' outer' base' L' h' B' F' N' X' T' hd' hu'; (try dsimp only); (try k_fold))
  k_steps
  all_goals (refine ends_tup3 (by assumption) (by assumption) ?_; simp only [hsvF, hueF, feq, fle, *, if_true, if_false, Bool.false_eq_true])
end Mine
end
section
open PySem PySem.W PySem.Spec PySem.Calls PyProof.Rows
namespace Mine
def rgbHls (h l s : UInt64) : UInt64 × UInt64 × UInt64 :=
  if feq s 0 then (l, l, l) else
  let m2 := if fle l 4602678819172646912 then Float64.mul l (Float64.add 4607182418800017408 s) else Float64.sub (Float64.add l s) (Float64.mul l s)
  let m1 := Float64.sub (Float64.mul 4611686018427387904 l) m2
  (vF m1 m2 (Float64.add h 4599676419421066581), vF m1 m2 h, vF m1 m2 (Float64.sub h 4599676419421066581))
def sixth (h : UInt64) : Int := Flt.toInt Float64.truncOf (Float64.mul h 4618441417868443648)
def rgbHsv (h s v : UInt64) : UInt64 × UInt64 × UInt64 :=
  if feq s 0 then (v, v, v) else
  let f := Float64.sub (Float64.mul h 4618441417868443648) (Float64.ofInt (sixth h))
  let p := Float64.mul v (Float64.sub 4607182418800017408 s)
  let q := Float64.mul v (Float64.sub 4607182418800017408 (Float64.mul s f))
  let t := Float64.mul v (Float64.sub 4607182418800017408 (Float64.mul s (Float64.sub 4607182418800017408 f)))
  if (sixth h).fmod 6 = 0 then (v, t, p) else if (sixth h).fmod 6 = 1 then (q, v, p) else if (sixth h).fmod 6 = 2 then (p, v, t)
  else if (sixth h).fmod 6 = 3 then (p, q, v) else if (sixth h).fmod 6 = 4 then (t, p, v) else (v, p, q)
def rgbHsvOk (h s : UInt64) : Bool := feq s 0 || (!Float64.isNaN (Float64.mul h 4618441417868443648) && !Float64.isInf (Float64.mul h 4618441417868443648) && decide ((sixth h).natAbs < 1000))
theorem big_no {n : Nat} (h : n < 1000) : ¬ (2 ^ 1024 - 2 ^ 970 ≤ n) := Nat.not_le.mpr (Nat.lt_of_lt_of_le h (by decide +kernel))
theorem six_no {i : Int} (h0 : i.fmod 6 ≠ 0) (h1 : i.fmod 6 ≠ 1) (h2 : i.fmod 6 ≠ 2) (h3 : i.fmod 6 ≠ 3) (h4 : i.fmod 6 ≠ 4) (h5 : i.fmod 6 ≠ 5) : False := by
  have a := Int.fmod_nonneg_of_pos i (b := 6) (by decide)
  have b := Int.fmod_lt_of_pos i (b := 6) (by decide)
  omega
end Mine
end
section
open PySem PySem.W PySem.Spec PySem.Calls PyProof.Rows
namespace Mine
set_option maxHeartbeats 4000000 in
theorem hls_to_rgb_does {w : World} {mean : ExcName → Option Value} {mg mb : Str → Option Value} {s : Shared} {h l s_ : UInt64} {t_h t_l t_s_ : Tok} : Does w mean mg mb 2 40 [.float h t_h, .float l t_l, .float s_ t_s_] s (Tup3F s (rgbHls h l s_)) := by
  k_with_none
  k_with "binaryOp Div float float" => (((with_reducible refine div_nz (by k_dflt (first | with_reducible exact z_six | with_reducible exact z_two | with_reducible exact Nz.out (by assumption) (by assumption) | with_reducible exact NzT.out (by assumption) (by assumption) (by assumption) | with_reducible exact NzF.out (by assumption) (by assumption) (by assumption))) ?_)))
  k_with "binaryOp Mod float float" => (((with_reducible refine mod_nz (by k_dflt (with_reducible exact z_one)) ?_)))
  k_with "call ref" => ((k_here; (with_reducible show wpAny _ _ (call (Value.ref 47) [Value.float _ _, Value.float _ _, Value.float _ _]) _ _ _); k_dflt (refine' use v_does (by k_dflt (k_asm)) (by k_dflt (k_asm)) (by k_dflt (k_asm)) (by k_dflt (k_asm)) (by k_dflt (k_asm)) (by k_dflt (exact rfl)) (by k_dflt (((try dsimp only [ktrTop]); omega))) (by k_dflt (((try dsimp only [ktrTop]); omega))) ?_; k_whole); intro r9Wq h9Wq tk9Wq F9Wq N9Wq k9Wq p9Wq; clear k9Wq; obtain ⟨t9, e9⟩ := p9Wq; subst e9; (try dsimp only); (try k_sweep); (try k_fold)))
  k_dflt (refine' enter (binds := [(Str.ofString "h", .float h t_h), (Str.ofString "l", .float l t_l), (Str.ofString "s", .float s_ t_s_)]) ?k6 ?k7 ?k9 ?kB ?_ ?c2 ?c3 ?c4 ?c5; (case k6 => k_is); (case k7 => k_is); (case k9 => exact BindsTo.of_eq rfl); (case c5 => decide); (case kB => exact locs rfl); (case c2 => exact rfl); (case c3 => exact rfl); (case c4 => exact rfl); k_whole; intro dp' un' gd' cn' cs' L0' a' ccd' cl' outer' base' L' h' B' F' N' X' T' hd' hu'; (try dsimp only); (try k_fold))
  k_steps
  all_goals (refine ends_tup3 (by assumption) (by assumption) ?_; simp only [rgbHls, feq, fle, *, if_true, if_false, Bool.false_eq_true])
set_option maxHeartbeats 4000000 in
theorem hsv_to_rgb_does {w : World} {mean : ExcName → Option Value} {mg mb : Str → Option Value} {s : Shared} {h s_ v : UInt64} {t_h t_s_ t_v : Tok} (ok : rgbHsvOk h s_ = true) : Does w mean mg mb 1 61 [.float h t_h, .float s_ t_s_, .float v t_v] s (Tup3F s (rgbHsv h s_ v)) := by
  k_with_none
  k_with "binaryOp Div float float" => (((with_reducible refine div_nz (by k_dflt (first | with_reducible exact z_six | with_reducible exact z_two | with_reducible exact Nz.out (by assumption) (by assumption) | with_reducible exact NzT.out (by assumption) (by assumption) (by assumption) | with_reducible exact NzF.out (by assumption) (by assumption) (by assumption))) ?_)))
  k_with "binaryOp Mod float float" => (((with_reducible refine mod_nz (by k_dflt (with_reducible exact z_one)) ?_)))
  k_with "call ref" => ((k_here; (with_reducible show wpAny _ _ (call (Value.ref 47) [Value.float _ _, Value.float _ _, Value.float _ _]) _ _ _); k_dflt (refine' use v_does (by k_dflt (k_asm)) (by k_dflt (k_asm)) (by k_dflt (k_asm)) (by k_dflt (k_asm)) (by k_dflt (k_asm)) (by k_dflt (exact rfl)) (by k_dflt (((try dsimp only [ktrTop]); omega))) (by k_dflt (((try dsimp only [ktrTop]); omega))) ?_; k_whole); intro r9Wq h9Wq tk9Wq F9Wq N9Wq k9Wq p9Wq; clear k9Wq; obtain ⟨t9, e9⟩ := p9Wq; subst e9; (try dsimp only); (try k_sweep); (try k_fold)))
  k_dflt (refine' enter (binds := [(Str.ofString "h", .float h t_h), (Str.ofString "s", .float s_ t_s_), (Str.ofString "v", .float v t_v)]) ?k6 ?k7 ?k9 ?kB ?_ ?c2 ?c3 ?c4 ?c5; (case k6 => k_is); (case k7 => k_is); (case k9 => exact BindsTo.of_eq rfl); (case c5 => decide); (case kB => exact locs rfl); (case c2 => exact rfl); (case c3 => exact rfl); (case c4 => exact rfl); k_whole; intro dp' un' gd' cn' cs' L0' a' ccd' cl' outer' base' L' h' B' F' N' X' T' hd' hu'; (try dsimp only); (try k_fold))
  k_steps
  all_goals first
    | (refine ends_tup3 (by assumption) (by assumption) ?_; simp only [rgbHsv, sixth, feq, fle, *, if_true, if_false, Bool.false_eq_true]; done)
    | (refine ends_tup3 (by assumption) (by assumption) ?_; simp only [rgbHsv, sixth, feq, fle, *, if_true, if_false, Bool.false_eq_true, reduceCtorEq, Int.reduceEq]; done)
    | (exfalso; exact six_no (by assumption) (by assumption) (by assumption) (by assumption) (by assumption) (by assumption))
    | (exfalso; simp only [rgbHsvOk, feq, fle, *, if_true, if_false, Bool.false_eq_true, Bool.false_or, Bool.not_true, Bool.and_false, Bool.false_and] at ok; done)
    | (exfalso; (have ok2 : (sixth h).natAbs < 1000 := by (simp only [rgbHsvOk, feq, *, Bool.false_or, Bool.and_eq_true, decide_eq_true_eq] at ok; exact ok.2)); exact big_no ok2 (by assumption))
end Mine
end
section
open PySem PySem.W PySem.Spec PySem.Calls PyProof.Rows
namespace Mine

/-- every tuple stays -/
def TupKeep (h h' : Heap) : Prop := ∀ a o xs n, h.get? a = some o → o.cls = .type "tuple" → o.data = .seq xs n → h'.get? a = some o
theorem TupKeep.trans {h h' h'' : Heap} (x : TupKeep h h') (y : TupKeep h' h'') : TupKeep h h'' := fun a o xs n e c d => y a o xs n (x a o xs n e c d) c d
theorem TupKeep.grow {h h' : Heap} (k : ∀ b o, h.get? b = some o → h'.get? b = some o) : TupKeep h h' := fun a o _ _ e _ _ => k a o e
theorem TupKeep.ns {h h' : Heap} {C : Addr} {m : Str → Option Value} (N : h.Ns C m) (k : ∀ b o, b ≠ C → h.get? b = some o → h'.get? b = some o) : TupKeep h h' := fun a o xs n e c d => by
  refine k a o (fun q => ?_) e
  subst q
  obtain ⟨o', es, ep, ho, hd, _⟩ := N
  rw [e] at ho; cases ho
  rw [hd] at d; cases d
theorem TupKeep.list {h h' : Heap} {D : Addr} {its : Array Value} (N : h.IsList D its) (k : ∀ b o, b ≠ D → h.get? b = some o → h'.get? b = some o) : TupKeep h h' := fun a o xs n e c d => by
  refine k a o (fun q => ?_) e
  subst q
  obtain ⟨o', ho, hc, _⟩ := N
  rw [e] at ho; cases ho
  rw [hc] at c; exact absurd c (by decide)
theorem TupKeep.tup {h h' : Heap} (k : TupKeep h h') {a : Addr} {its : Array Value} (t : IsTup h a its) : IsTup h' a its := let ⟨o, ho, hc, n, hd⟩ := t; ⟨o, k a o its n ho hc hd, hc, n, hd⟩

/-- how the element's evaluation ends -/
def EltEnd (g : Heap) (C : Addr) (own : List (Addr × Obj)) (R : Value → Heap → Prop) (s₁ : Shared) (y : Value) (s₂ : Shared) : Prop :=
  ∃ h' tk m' news', s₂ = { s₁ with heap := h', toks := tk } ∧ Fr g C h' m' ∧ News g C h' news' ∧ (∀ p ∈ own, p ∈ news') ∧ R y h'

section
variable {prog : Program} {w : World} {A : Around} {s : Shared} {env : Env} {g : Heap}

theorem comp_code {RR : Result → Shared → Prop} {elt target iter : Expr} {scope : Scope} {pos : Pos} {I D C : Addr} {cenv : Env} {fp wr : List Addr} {n : Nat} {P : Nat → Value → Heap → Prop} {St : Nat → Heap → Prop} {m : Str → Option Value}
    (W : Iter prog w A target I fp wr n P St) (R : Nat → Value → Heap → Prop) (hR : ∀ i y h h', R i y h → TupKeep h h' → R i y h')
    (hC : cenv.locals = C) (hDC : D ≠ C) (hDf : D ∉ fp) (hCf : C ∉ fp) (hwr : ∀ b ∈ wr, g.get? b = none) (hDg : g.get? D = none) (hsz : n ≤ sizeLine)
    (hst : St 0 s.heap) (hacc : s.heap.PlainList D #[]) (F : Fr g C s.heap m)
    (turn : ∀ i v m₁ h tk own E', i < n → P i v h → Fr g C h m₁ → News g C h own →
      wpAny (model prog w) A (assign target cenv v) (fun _ s₂ => wpAny (model prog w) A (eval elt cenv) (EltEnd g C own (R i) { s with heap := h, toks := tk }) E' s₂) E' { s with heap := h, toks := tk })
    (done : ∀ h tk m' ys, Fr g C h m' → h.PlainList D ys → ys.size = n → (∀ i y, ys[i]? = some y → R i y h) → RR (.ok .next) { s with heap := h, toks := tk }) :
    codeAny (model prog w) A (.compLoop (.ListComp elt [⟨target, iter, [], 0⟩] scope pos) 0 (.ref I) (.ref D) cenv) RR s := by
  have hCw : C ∉ wr := fun h => hCf (W.sub _ h)
  have hDw : D ∉ wr := fun h => hDf (W.sub _ h)
  have old : ∀ b o, g.get? b = some o → b ∉ wr := fun b o e hb => by rw [hwr b hb] at e; cases e
  let Inv : Nat → Shared → Prop := fun k s' => ∃ h' tk m' ys i, s' = { s with heap := h', toks := tk } ∧ St i h' ∧ Fr g C h' m' ∧ h'.PlainList D ys ∧ ys.size = i ∧ (∀ j y, ys[j]? = some y → R j y h') ∧ i ≤ n ∧ k = n + 1 - i
  refine codeAny_loop rfl Inv (fun k s' hI => ?_) (n + 1) ⟨s.heap, s.toks, m, #[], 0, rfl, hst, F, hacc, rfl, by simp, Nat.zero_le _, rfl⟩
  obtain ⟨h', tk, m', ys, i, rfl, hst', F', hacc', hys, hRs, hi, rfl⟩ := hI
  show wpAny _ A ((compTurn (.ListComp elt [⟨target, iter, [], 0⟩] scope pos) 0 (.ref I) (.ref D) cenv).onRaise (fun x => do noteFrame x cenv; theTreesLotGoes x)) _ _ _
  refine wpAny_noted ?_
  rw [compTurn_list1]
  refine wpAny_bind (wpAny_standAt (wpAny_bind ?_))
  have nxt : ∀ h₁ : Heap, (∀ b o, b ∉ wr → h'.get? b = some o → h₁.get? b = some o) → Fr g C h₁ m' ∧ h₁.PlainList D ys ∧ TupKeep h' h₁ := fun h₁ hk₁ =>
    ⟨⟨F'.ns.at' fun o e => hk₁ _ o hCw e, fun b o e => hk₁ b o (old b o e) (F'.keep b o e), F'.above⟩, hacc'.at fun o e => hk₁ _ o hDw e,
      fun a o xs k e c d => hk₁ a o (fun q => W.tup _ _ hst' a q o e c) e⟩
  by_cases hlt : i < n
  · refine wpAny_mono (W.next i _ (fun v s₂ => wpAny (model prog w) A (assign target cenv v) (fun _ s₂ => wpAny (model prog w) A (eval elt cenv) (fun x s₃ =>
      wpAny (model prog w) A (call (.builtin "list.append") [.ref D, x]) (fun _ s₄ => ∃ m, m < n + 1 - i ∧ Inv m s₄) (notedBy (model prog w) A cenv fun e s' => RR (.error e) s') s₃)
        (notedBy (model prog w) A cenv fun e s' => RR (.error e) s') s₂) (notedBy (model prog w) A cenv fun e s' => RR (.error e) s') s₂) _ hlt hst' fun v h₁ tk₁ hP hst₁ hk₁ => ?_) (fun r s₁ hr => ?_) fun _ _ e => e
    · obtain ⟨F₁, hacc₁, T₁⟩ := nxt h₁ hk₁
      obtain ⟨nD, eD⟩ := id hacc₁
      have hCall : C ∉ (List.range h₁.objs.size).filter (fun b => b != C) := fun q => by
        have := (List.mem_filter.mp q).2
        simp at this
      have Nown : News g C h₁ (ownOf g ((List.range h₁.objs.size).filter (fun b => b != C)) h₁) := news_ownOf hCall
      refine wpAny_mono (turn i v m' h₁ tk₁ _ _ hlt hP F₁ Nown) (fun _ s₂ h₂ => wpAny_mono h₂ (fun y s₃ h₃ => ?_) fun _ _ e => e) fun _ _ e => e
      obtain ⟨h₃', tk₃, m₃, news₃, rfl, F₃, N₃, ho₃, hR₃⟩ := h₃
      have all : ∀ b o, b ≠ C → h₁.get? b = some o → h₃'.get? b = some o := fun b o hb e => by
        cases hn : g.get? b with
        | some o₀ =>
          have : o₀ = o := by have := F₁.keep b o₀ hn; rw [e] at this; exact (Option.some.inj this).symm
          exact this ▸ F₃.keep b o₀ hn
        | none => exact (N₃ _ (ho₃ _ (mem_ownOf (List.mem_filter.mpr ⟨List.mem_range.mpr (Heap.lt_size e), by simpa using hb⟩) hn e))).1
      have eD₃ : h₃'.get? D = some (listOf ys nD) := all _ _ hDC eD
      refine wpAny_list_append_plain (hsz := by rw [hys]; exact Nat.le_trans hi hsz) ⟨nD, eD₃⟩ fun h₄ hl₄ hs₄ => ?_
      have hst₃ : St (i + 1) h₃' := W.frame _ _ _ hst₁ fun b hb o e => all b o (fun q => hCf (q ▸ hb)) e
      have T₄ : TupKeep h₃' h₄ := .list (D := D) (its := ys) ⟨_, eD₃, rfl, nD, rfl⟩ fun b o hb e => hs₄.extBut b o hb e
      have T₃ : TupKeep h₁ h₃' := .ns F₁.ns all
      refine ⟨n + 1 - (i + 1), by omega, h₄, tk₃, m₃, ys.push y, i + 1, rfl, W.frame _ _ _ hst₃ fun b hb o e => hs₄.extBut b o (fun q => hDf (q ▸ hb)) e, ?_, hl₄, by simp [hys], ?_, hlt, rfl⟩
      · exact ⟨F₃.ns.sameBut hs₄ (Ne.symm hDC), fun b o e => hs₄.extBut b o (fun q => by rw [q, hDg] at e; cases e) (F₃.keep b o e), F₃.above⟩
      · intro j y' hj
        rw [Array.getElem?_push] at hj
        split at hj
        · rename_i hjs
          cases hj
          rw [hjs, hys]
          exact hR _ _ _ _ hR₃ T₄
        · exact hR _ _ _ _ (hRs j y' hj) (T₁.trans (T₃.trans T₄))
    · cases r with
      | none => exact hr.elim
      | some v => exact wpAny_bind (wpAny_mono hr (fun _ s₂ h₂ => wpAny_bind (wpAny_mono h₂ (fun _ s₃ h₃ => wpAny_bind (wpAny_bind (wpAny_mono h₃ (fun x s₄ h₄ => wpAny_bind (wpAny_mono h₄ (fun _ s₅ h₅ => wpAny_pure (wpAny_pure ⟨rfl, h₅⟩)) fun _ _ e => e)) fun _ _ e => e))) fun _ _ e => e)) fun _ _ e => e)
  · have hin : i = n := by omega
    subst hin
    refine W.done _ _ _ hst' fun h₁ tk₁ hk₁ => wpAny_pure ?_
    obtain ⟨F₁, hacc₁, T₁⟩ := nxt h₁ hk₁
    exact done h₁ tk₁ m' ys F₁ hacc₁ hys fun j y hj => hR _ _ _ _ (hRs j y hj) T₁
end
end Mine
end
section
open PySem PySem.W PySem.Spec PySem.Calls PyProof.Rows
namespace Mine

section
variable {prog : Program} {w : World} {A : Around} {s : Shared} {env : Env} {g : Heap}

/-- a list comprehension where its iterator has been made; RR tells what is asked behind its loop -/
def CompR (prog : Program) (w : World) (A : Around) (env : Env) (elt target iter : Expr) (scope : Scope) (pos : Pos) (E : Value → Shared → Prop) (RR : Value → Env → Result → Shared → Prop) (it : Value) (s₂ : Shared) : Prop :=
  wpAny (model prog w) A (newList []) (fun acc s₃ => wpAny (model prog w) A (newFunctionEnv scope env.globals [] [] env.qual none .none (some env)) (fun cenv s₄ =>
    codeAny (model prog w) A (.compStart (.ListComp elt [⟨target, iter, [], 0⟩] scope pos) 0 it acc { cenv with scope := scope }) (RR acc { cenv with scope := scope }) s₄) E s₃) E s₂

theorem comp_base {E : Value → Shared → Prop} {RR : Value → Env → Result → Shared → Prop} {elt target iter : Expr} {scope : Scope} {pos : Pos} {I : Addr} {fp wr : List Addr} {n : Nat} {P : Nat → Value → Heap → Prop} {St : Nat → Heap → Prop}
    (W : Iter prog w A target I fp wr n P St) (R : Nat → Value → Heap → Prop) (hR : ∀ i y h h', R i y h → TupKeep h h' → R i y h')
    (hg : ∀ b o, g.get? b = some o → s.heap.get? b = some o) (hgs : g.objs.size ≤ s.heap.objs.size) (hwr : ∀ b ∈ wr, g.get? b = none) (hfp : ∀ b ∈ fp, b < s.heap.objs.size) (hst : St 0 s.heap) (hsz : n ≤ sizeLine)
    (hcell : ∀ y ∈ scope.names, y.2 ≠ .cell) (hkind : scope.kind = .function)
    (turn : ∀ C i v m₁ h tk own E', i < n → P i v h → Fr g C h m₁ → News g C h own →
      wpAny (model prog w) A (assign target (compEnv scope C env) v) (fun _ s₂ => wpAny (model prog w) A (eval elt (compEnv scope C env)) (EltEnd g C own (R i) { s with heap := h, toks := tk }) E' s₂) E' { s with heap := h, toks := tk })
    (done : ∀ D C h tk m' ys, g.get? D = none → g.get? C = none → D ≠ C → Fr g C h m' → h.PlainList D ys → ys.size = n → (∀ i y, ys[i]? = some y → R i y h) → RR (.ref D) (compEnv scope C env) (.ok .next) { s with heap := h, toks := tk }) :
    CompR prog w A env elt target iter scope pos E RR (.ref I) s := by
  refine wpAny_newObj_type (hd := by size_fits) (wpAny_newFunctionEnv hcell (by intro y hy; simp at hy) (fun h₁ hns₁ hsb₁ => ?_) hkind)
  dsimp only at hns₁ hsb₁ ⊢
  generalize hH2 : s.heap.push { cls := .type "list", dict := none, data := .seq ([] : List Value).toArray } = H2 at hns₁ hsb₁ ⊢
  have hC : H2.objs.size = s.heap.objs.size + 1 := by rw [← hH2, Heap.size_push]
  have hDC : s.heap.objs.size ≠ H2.objs.size := by rw [hC]; exact Nat.ne_of_lt (Nat.lt_succ_self _)
  have old : ∀ b o, s.heap.get? b = some o → h₁.get? b = some o := fun b o e =>
    hsb₁.extBut b o (by rw [hC]; exact Nat.ne_of_lt (Nat.lt_succ_of_lt (Heap.lt_size e))) (Heap.get?_push_of_some _ (hH2 ▸ Heap.get?_push_of_some _ e))
  have fresh : ∀ a, g.objs.size ≤ a → g.get? a = none := fun a ha => by
    cases e : g.get? a with
    | none => rfl
    | some o' => exact absurd (Heap.lt_size e) (Nat.not_lt.mpr ha)
  have hacc : h₁.PlainList s.heap.objs.size #[] := ⟨0, hsb₁.extBut _ _ hDC (Heap.get?_push_of_some _ (hH2 ▸ Heap.get?_push_size _ rfl))⟩
  have hDg := fresh s.heap.objs.size hgs
  have hCg := fresh H2.objs.size (by rw [hC]; exact Nat.le_succ_of_le hgs)
  have hst₁ : St 0 h₁ := W.frame _ _ _ hst fun b _ o e => old b o e
  have F₁ : Fr g H2.objs.size h₁ (fun x => ([] : List (Str × Value)).reverse.lookup x) := ⟨hns₁, fun b o e => old b o (hg b o e), by rw [hC]; exact Nat.le_succ_of_le hgs⟩
  have loop : ∀ s₂ : Shared, s₂ = { s with heap := h₁, toks := s.toks + ([] : List (Str × Value)).length } →
      codeAny (model prog w) A (.compLoop (.ListComp elt [⟨target, iter, [], 0⟩] scope pos) 0 (.ref I) (.ref s.heap.objs.size) (compEnv scope H2.objs.size env))
        (RR (.ref s.heap.objs.size) (compEnv scope H2.objs.size env)) s₂ := by
    rintro s₂ rfl
    refine comp_code W R hR rfl hDC (fun q => Nat.lt_irrefl _ (hfp _ q)) (fun q => ?_) hwr hDg hsz hst₁ hacc F₁ (fun i v m₁ h tk own E' a b c d => turn _ i v m₁ h tk own E' a b c d) (fun h tk m' ys F' hl hs' hRs => done _ _ h tk m' ys hDg hCg hDC F' hl hs' hRs)
    have := hfp _ q
    rw [hC] at this
    exact Nat.lt_irrefl _ (Nat.lt_of_succ_lt this)
  exact codeAny_compStart_list (loop _ rfl) (W.self 0 _ _ _ hst₁ (loop _ rfl))

def CompT (prog : Program) (w : World) (A : Around) (env : Env) (elt target iter : Expr) (scope : Scope) (pos : Pos) (Q E : Value → Shared → Prop) (it : Value) (s₂ : Shared) : Prop :=
  CompR prog w A env elt target iter scope pos E (fun acc cenv r s' => ∃ m, s'.heap.Ns cenv.locals m ∧ ∀ h', Heap.SameBut cenv.locals s'.heap h' →
    match r with | .ok _ => Q acc { s' with heap := h' } | .error x => wpAny (model prog w) A (passOn "comprehension.variables-let-go" x cenv) Q E { s' with heap := h' }) it s₂

theorem comp_open {Q E : Value → Shared → Prop} {elt target iter : Expr} {scope : Scope} {pos : Pos}
    (hfree : ∀ x ∈ scope.names, x.2 ≠ .free) (hkind : scope.kind = .function) (hnames : ∀ x ∈ scope.names, x.2 = .local → scope.names.lookup x.1 = some .local)
    (h : wpAny (model prog w) A (eval iter env) (fun x s₁ => wpAny (model prog w) A (pyIter x) (fun it s₂ => CompT prog w A env elt target iter scope pos Q E it s₂) E s₁) E s)
    (hs : ∀ x, foldedSetIterable iter env x = pure x) :
    wpAny (model prog w) A (eval (.ListComp elt [⟨target, iter, [], 0⟩] scope pos) env) Q E s := wpAny_ListComp hfree hkind hnames h hs

theorem comp_go {Q E : Value → Shared → Prop} {elt target iter : Expr} {scope : Scope} {pos : Pos} {I : Addr} {fp wr : List Addr} {n : Nat} {P : Nat → Value → Heap → Prop} {St : Nat → Heap → Prop}
    (W : Iter prog w A target I fp wr n P St) (R : Nat → Value → Heap → Prop) (hR : ∀ i y h h', R i y h → TupKeep h h' → R i y h')
    (hg : ∀ b o, g.get? b = some o → s.heap.get? b = some o) (hgs : g.objs.size ≤ s.heap.objs.size) (hwr : ∀ b ∈ wr, g.get? b = none) (hfp : ∀ b ∈ fp, b < s.heap.objs.size) (hst : St 0 s.heap) (hsz : n ≤ sizeLine)
    (hcell : ∀ y ∈ scope.names, y.2 ≠ .cell) (hkind : scope.kind = .function)
    (turn : ∀ C i v m₁ h tk own E', i < n → P i v h → Fr g C h m₁ → News g C h own →
      wpAny (model prog w) A (assign target (compEnv scope C env) v) (fun _ s₂ => wpAny (model prog w) A (eval elt (compEnv scope C env)) (EltEnd g C own (R i) { s with heap := h, toks := tk }) E' s₂) E' { s with heap := h, toks := tk })
    (done : ∀ D h tk ys, g.get? D = none → (∀ b o, g.get? b = some o → h.get? b = some o) → h.PlainList D ys → ys.size = n → (∀ i y, ys[i]? = some y → R i y h) → Q (.ref D) { s with heap := h, toks := tk }) :
    CompT prog w A env elt target iter scope pos Q E (.ref I) s :=
  comp_base W R hR hg hgs hwr hfp hst hsz hcell hkind turn fun D C h tk m' ys hD hC hDC F hl hn hRs => ⟨m', F.ns, fun h' hs' =>
    done D h' tk ys hD (fun b o e => hs'.extBut b o (fun q => by rw [q] at e; exact nomatch (hC.symm.trans e)) (F.keep b o e)) (hl.extBut hs'.extBut hDC) hn fun i y hy => hR _ _ _ _ (hRs i y hy) (.ns F.ns hs'.extBut)⟩
end

-- names in a comprehension block
section
variable {M : Model} {A : Around} {E : Value → Shared → Prop} {s : Shared} {K : Frag} {h₀ : Heap} {C : Addr} {m mg mb : Str → Option Value} {p : Program} {loose : List Str} {env : Env} {scope : Scope}
  {x : Str} {pos : Pos} {v : Value} {Q : Value → Shared → Prop}
theorem nameC_L (F : Fr h₀ C s.heap m) (hv : m x = some v) (h : Q v s) (hk : scope.kind = .function) (hx : scope.names.lookup x = some .local) (hd : (x == ("__debug__" : Str)) = false) :
    wpAny M A (eval (.Name x pos) (compEnv scope C env)) Q E s := wpAny_Name (wpAny_loadName_local hk hx F.ns hv h) hd
theorem nameC_K (F : Fr h₀ C s.heap m) (X : K.In h₀) (T : TopRead p loose mg mb h₀) (e : nsIn K mainGlobals x = some (some v)) (h : Q v s) (hg : env.globals = mainGlobals) (hk : scope.kind = .function) (hx : (compEnv scope C env).kindOf x = some .globalImplicit) (hd : (x == ("__debug__" : Str)) = false) :
    wpAny M A (eval (.Name x pos) (compEnv scope C env)) Q E s := nameG_K F X T e h hg hk hx hd
theorem nameC_B (F : Fr h₀ C s.heap m) (X : K.In h₀) (T : TopRead p loose mg mb h₀) (e : nsIn K mainGlobals x = some none) (hv : bootBuiltins x = some v) (hn : x ≠ "__name__") (h : Q v s) (hg : env.globals = mainGlobals) (hb : env.builtins = builtinsNs) (hk : scope.kind = .function)
    (hx : (compEnv scope C env).kindOf x = some .globalImplicit) (hd : (x == ("__debug__" : Str)) = false) :
    wpAny M A (eval (.Name x pos) (compEnv scope C env)) Q E s :=
  Name_function_global hk hx (loadGlobal_builtin (env := compEnv scope C env) (by show s.heap.Ns env.globals _; rw [hg]; exact T.g.keeps F.keep) (mg_none_of X T.g e) (by show s.heap.Ns env.builtins _; rw [hb]; exact T.b.keeps F.keep) ((T.builtins x hn).trans hv) h) hd
theorem storeC_L {news : List (Addr × Obj)} {Q : Unit → Shared → Prop} (F : Fr h₀ C s.heap m) (N : News h₀ C s.heap news)
    (h : ∀ h', Fr h₀ C h' (fun y => if y = x then some v else m y) → News h₀ C h' news → Q () { s with heap := h', toks := s.toks + 1 }) (hk : scope.kind = .function) (hx : scope.names.lookup x = some .local) :
    wpAny M A (storeName (compEnv scope C env) x v) Q E s :=
  wpAny_storeName_local (env := compEnv scope C env) hx F.ns (fun h' hn hs => h h' (F.set hn hs) (N.set hs)) (by show (scope.kind == .class || (scope.kind == .module && _)) = false; rw [hk]; rfl)
end
end Mine
end
section
open PySem PySem.W PySem.Spec PySem.Calls PyProof.Rows
namespace Mine
section
variable {prog : Program} {w : World} {A : Around}

theorem go_name {x : Str} {px : Pos} {I : Addr} {v : Value} {s : Shared} {Q : Unit → Shared → Prop} {E : Value → Shared → Prop} (h : Q () s) : wpAny (model prog w) A (letOwnedTupleGo (.Name x px) (.ref I) v) Q E s := wpAny_pure h
theorem go_list {elts : List Expr} {k : Nat} {px : Pos} {I l : Addr} {i : Nat} {v : Value} {s : Shared} {Q : Unit → Shared → Prop} {E : Value → Shared → Prop} (hit : s.heap.IsListIter I l i) (h : Q () s) :
    wpAny (model prog w) A (letOwnedTupleGo (.Tuple elts k px) (.ref I) v) Q E s := by
  cases v with
  | ref T => exact wpAny_letOwnedTupleGo_listiter hit h
  | _ => exact wpAny_pure h

theorem iter_list {x : Str} {px : Pos} (hh : A.handled = none) (I l : Addr) (hne : l ≠ I) (items : Array Value) :
    Iter prog w A (.Name x px) I [I, l] [I] items.size (fun i v _ => items[i]? = some v) (fun i h => h.IsListIter I l i ∧ h.IsList l items) :=
  .ofWalks (Walks.list hh I l hne items)
    (fun i h st b hb => by
      rcases List.mem_cons.mp hb with rfl | hb
      · obtain ⟨o, ho, _⟩ := st.1; exact ⟨o, ho⟩
      · rw [List.mem_singleton.mp hb]; obtain ⟨o, ho, _⟩ := st.2; exact ⟨o, ho⟩)
    (fun i h st b hb o ho => by
      rw [List.mem_singleton.mp hb] at ho
      obtain ⟨o', ho', hc, _⟩ := st.1
      rw [ho] at ho'; cases ho'
      rw [hc]; decide)
    (fun i v s Q E st h => go_name h)
theorem iter_listT {elts : List Expr} {k : Nat} {px : Pos} (hh : A.handled = none) (I l : Addr) (hne : l ≠ I) (items : Array Value) :
    Iter prog w A (.Tuple elts k px) I [I, l] [I] items.size (fun i v _ => items[i]? = some v) (fun i h => h.IsListIter I l i ∧ h.IsList l items) :=
  .ofWalks (Walks.list hh I l hne items)
    (fun i h st b hb => by
      rcases List.mem_cons.mp hb with rfl | hb
      · obtain ⟨o, ho, _⟩ := st.1; exact ⟨o, ho⟩
      · rw [List.mem_singleton.mp hb]; obtain ⟨o, ho, _⟩ := st.2; exact ⟨o, ho⟩)
    (fun i h st b hb o ho => by
      rw [List.mem_singleton.mp hb] at ho
      obtain ⟨o', ho', hc, _⟩ := st.1
      rw [ho] at ho'; cases ho'
      rw [hc]; decide)
    (fun i v s Q E st h => go_list st.1 h)
theorem iter_tuple {x : Str} {px : Pos} (hh : A.handled = none) (I l : Addr) (hne : l ≠ I) (items : Array Value) :
    Iter prog w A (.Name x px) I [I, l] [I] items.size (fun i v _ => items[i]? = some v) (fun i h => h.IsTupleIter I l i ∧ h.IsTuple l items) :=
  .ofWalks (Walks.tuple hh I l hne items)
    (fun i h st b hb => by
      rcases List.mem_cons.mp hb with rfl | hb
      · obtain ⟨o, ho, _⟩ := st.1; exact ⟨o, ho⟩
      · rw [List.mem_singleton.mp hb]; obtain ⟨o, ho, _⟩ := st.2; exact ⟨o, ho⟩)
    (fun i h st b hb o ho => by
      rw [List.mem_singleton.mp hb] at ho
      obtain ⟨o', ho', hc, _⟩ := st.1
      rw [ho] at ho'; cases ho'
      rw [hc]; decide)
    (fun i v s Q E st h => go_name h)
theorem iter_range {x : Str} {px : Pos} (hh : A.handled = none) (I : Addr) (a c : Int) (n : Nat) :
    Iter prog w A (.Name x px) I [I] [I] n (fun i v _ => ∃ t, v = .int (a + i * c) t) (fun i h => IsRangeIter h I (a + (i : Nat) * c) ((n : Int) - (i : Nat)) c) :=
  .ofWalks (Walks.range hh I a c n)
    (fun i h st b hb => by rw [List.mem_singleton.mp hb]; exact ⟨_, st⟩)
    (fun i h st b hb o ho => by
      rw [List.mem_singleton.mp hb] at ho
      have st' : h.get? I = some _ := st
      rw [ho] at st'; cases st'
      show Value.type "range_iterator" ≠ Value.type "tuple"
      decide)
    (fun i v s Q E st h => go_name h)
theorem iter_ascii {x : Str} {px : Pos} (hh : A.handled = none) (I : Addr) (u : Str) (t : Tok) :
    Iter prog w A (.Name x px) I [I] [I] u.cps.size (fun i v _ => SignAt u i v) (fun i h => h.IsStrIter I "str_ascii_iterator" u t i) :=
  .ofWalks (Walks.strAscii hh I u t)
    (fun i h st b hb => by rw [List.mem_singleton.mp hb]; obtain ⟨o, ho, _⟩ := st; exact ⟨o, ho⟩)
    (fun i h st b hb o ho => by
      rw [List.mem_singleton.mp hb] at ho
      obtain ⟨o', ho', hc, _⟩ := st
      rw [ho] at ho'; cases ho'
      rw [hc]; decide)
    (fun i v s Q E st h => go_name h)
theorem iter_wide {x : Str} {px : Pos} (hh : A.handled = none) (I : Addr) (u : Str) (t : Tok) :
    Iter prog w A (.Name x px) I [I] [I] u.cps.size (fun i v _ => SignAt u i v) (fun i h => h.IsStrIter I "str_iterator" u t i) :=
  .ofWalks (Walks.strWide hh I u t)
    (fun i h st b hb => by rw [List.mem_singleton.mp hb]; obtain ⟨o, ho, _⟩ := st; exact ⟨o, ho⟩)
    (fun i h st b hb o ho => by
      rw [List.mem_singleton.mp hb] at ho
      obtain ⟨o', ho', hc, _⟩ := st
      rw [ho] at ho'; cases ho'
      rw [hc]; decide)
    (fun i v s Q E st h => go_name h)
/-- a text's iterator, of either kind -/
theorem iter_str {x : Str} {px : Pos} {E : Value → Shared → Prop} {s : Shared} {u : Str} {t : Tok} {Q : Value → Shared → Prop}
    (hQ : ∀ (o : Obj) (St : Nat → Heap → Prop), (∀ A' : Around, A'.handled = none → Iter prog w A' (.Name x px) s.heap.objs.size [s.heap.objs.size] [s.heap.objs.size] u.cps.size (fun i v _ => SignAt u i v) St) → St 0 (s.heap.push o) →
      Q (.ref s.heap.objs.size) { s with heap := s.heap.push o }) : wpAny (model prog w) A (pyIter (.str u t)) Q E s := by
  cases ha : u.cps.all (· < 128)
  · exact wpAny_pyIter_wide ha (hQ _ _ (fun A' hA => iter_wide hA _ u t) ⟨_, Heap.get?_push_size _ rfl, rfl, rfl⟩)
  · exact wpAny_pyIter_ascii ha (hQ _ _ (fun A' hA => iter_ascii hA _ u t) ⟨_, Heap.get?_push_size _ rfl, rfl, rfl⟩)

variable {env : Env} {s : Shared} {Q E : Value → Shared → Prop} {elt iter : Expr} {scope : Scope} {pos : Pos}
theorem assign_comp {C : Addr} {x : Str} {px : Pos} {v : Value} {g : Heap} {m : Str → Option Value} {own : List (Addr × Obj)} {Q : Unit → Shared → Prop} (F : Fr g C s.heap m) (N : News g C s.heap own)
    (hkind : scope.kind = .function) (hx : scope.names.lookup x = some .local)
    (h : ∀ h', Fr g C h' (fun y => if y = x then some v else m y) → News g C h' own → Q () { s with heap := h', toks := s.toks + 1 }) : wpAny (model prog w) A (assign (.Name x px) (compEnv scope C env) v) Q E s :=
  wpAny_assign_Name (storeC_L F N h hkind hx)
theorem assign_comp3 {C T : Addr} {x y z : Str} {px py pz pt : Pos} {k : Nat} {a b c : Value} {g : Heap} {m : Str → Option Value} {own : List (Addr × Obj)} {Q : Unit → Shared → Prop} (hh : A.handled = none) (F : Fr g C s.heap m) (N : News g C s.heap own)
    (ht : IsTup s.heap T #[a, b, c]) (hkind : scope.kind = .function) (hx : scope.names.lookup x = some .local) (hy : scope.names.lookup y = some .local) (hz : scope.names.lookup z = some .local)
    (h : ∀ h' tk, Fr g C h' (fun n => if n = z then some c else if n = y then some b else if n = x then some a else m n) → News g C h' own → Q () { s with heap := h', toks := tk }) :
    wpAny (model prog w) A (assign (.Tuple [.Name x px, .Name y py, .Name z pz] k pt) (compEnv scope C env) (.ref T)) Q E s := by
  refine assign_Tuple_tuple hh ht rfl rfl fun h' he => ?_
  have F' := F.extBut he (Nat.le_refl _)
  have N' := N.extBut he (Nat.le_refl _)
  refine assignInOrder_cons ?_
  refine assign_comp (s := { s with heap := h' }) F' N' hkind hx fun h₁ F₁ N₁ => ?_
  refine assignInOrder_cons ?_
  refine assign_comp (s := { s with heap := h₁, toks := s.toks + 1 }) F₁ N₁ hkind hy fun h₂ F₂ N₂ => ?_
  refine assignInOrder_cons ?_
  refine assign_comp (s := { s with heap := h₂, toks := s.toks + 1 + 1 }) F₂ N₂ hkind hz fun h₃ F₃ N₃ => ?_
  exact assignInOrder_nil (h h₃ _ F₃ N₃)

theorem comp_tuple {x : Str} {px : Pos} {l : Addr} {items : Array Value} (R : Nat → Value → Heap → Prop) (hh : A.handled = none) (ht : IsTup s.heap l items) (hsz : items.size ≤ sizeLine)
    (hcell : ∀ y ∈ scope.names, y.2 ≠ .cell) (hkind : scope.kind = .function) (hx : scope.names.lookup x = some .local) (hR : ∀ i y h h', R i y h → TupKeep h h' → R i y h')
    (turn : ∀ (C : Addr) (i : Nat) (v : Value) (m₁ : Str → Option Value) (h : Heap) (tk : Nat) (own : List (Addr × Obj)) (E' : Value → Shared → Prop), items[i]? = some v → Fr s.heap C h (fun y => if y = x then some v else m₁ y) → News s.heap C h own →
      wpAny (model prog w) A (eval elt (compEnv scope C env)) (EltEnd s.heap C own (R i) s) E' { s with heap := h, toks := tk })
    (done : ∀ D h tk ys, s.heap.get? D = none → (∀ b o, s.heap.get? b = some o → h.get? b = some o) → h.PlainList D ys → ys.size = items.size → (∀ i y, ys[i]? = some y → R i y h) → Q (.ref D) { s with heap := h, toks := tk }) :
    wpAny (model prog w) A (pyIter (.ref l)) (fun it s₂ => CompT prog w A env elt (.Name x px) iter scope pos Q E it s₂) E s := by
  obtain ⟨o, ho, r⟩ := id ht
  have hne : l ≠ s.heap.objs.size := Nat.ne_of_lt (Heap.lt_size ho)
  refine wpAny_pyIter_tuple ht ?_
  refine comp_go (g := s.heap) (iter_tuple hh s.heap.objs.size l hne items) R hR (fun b o e => Heap.get?_push_of_some _ e) (by rw [Heap.size_push]; exact Nat.le_succ _) (fun b hb => by rw [List.mem_singleton.mp hb]; cases e : s.heap.get? s.heap.objs.size with | none => rfl | some o => exact absurd (Heap.lt_size e) (Nat.lt_irrefl _))
    (fun b hb => by
      rw [Heap.size_push]
      rcases List.mem_cons.mp hb with rfl | hb
      · exact Nat.lt_succ_self _
      · rw [List.mem_singleton.mp hb]; exact Nat.lt_succ_of_lt (Heap.lt_size ho)) ⟨⟨_, Heap.get?_push_size _ rfl, rfl, rfl⟩, ⟨o, Heap.get?_push_of_some _ ho, r⟩⟩ hsz hcell hkind ?_ ?_
  · intro C i v m₁ h tk own E' _ hP F N
    exact assign_comp (s := { s with heap := h, toks := tk }) F N hkind hx fun h' F' N' => turn C i v m₁ h' _ own E' hP F' N'
  · exact done
theorem comp_list {x : Str} {px : Pos} {l : Addr} {items : Array Value} (R : Nat → Value → Heap → Prop) (hh : A.handled = none) (ht : s.heap.IsList l items) (hsz : items.size ≤ sizeLine)
    (hcell : ∀ y ∈ scope.names, y.2 ≠ .cell) (hkind : scope.kind = .function) (hx : scope.names.lookup x = some .local) (hR : ∀ i y h h', R i y h → TupKeep h h' → R i y h')
    (turn : ∀ (C : Addr) (i : Nat) (v : Value) (m₁ : Str → Option Value) (h : Heap) (tk : Nat) (own : List (Addr × Obj)) (E' : Value → Shared → Prop), items[i]? = some v → Fr s.heap C h (fun y => if y = x then some v else m₁ y) → News s.heap C h own →
      wpAny (model prog w) A (eval elt (compEnv scope C env)) (EltEnd s.heap C own (R i) s) E' { s with heap := h, toks := tk })
    (done : ∀ D h tk ys, s.heap.get? D = none → (∀ b o, s.heap.get? b = some o → h.get? b = some o) → h.PlainList D ys → ys.size = items.size → (∀ i y, ys[i]? = some y → R i y h) → Q (.ref D) { s with heap := h, toks := tk }) :
    wpAny (model prog w) A (pyIter (.ref l)) (fun it s₂ => CompT prog w A env elt (.Name x px) iter scope pos Q E it s₂) E s := by
  obtain ⟨o, ho, r⟩ := id ht
  have hne : l ≠ s.heap.objs.size := Nat.ne_of_lt (Heap.lt_size ho)
  refine wpAny_pyIter_list ht ?_
  refine comp_go (g := s.heap) (iter_list hh s.heap.objs.size l hne items) R hR (fun b o e => Heap.get?_push_of_some _ e) (by rw [Heap.size_push]; exact Nat.le_succ _) (fun b hb => by rw [List.mem_singleton.mp hb]; cases e : s.heap.get? s.heap.objs.size with | none => rfl | some o => exact absurd (Heap.lt_size e) (Nat.lt_irrefl _))
    (fun b hb => by
      rw [Heap.size_push]
      rcases List.mem_cons.mp hb with rfl | hb
      · exact Nat.lt_succ_self _
      · rw [List.mem_singleton.mp hb]; exact Nat.lt_succ_of_lt (Heap.lt_size ho)) ⟨⟨_, Heap.get?_push_size _ rfl, rfl, rfl⟩, ⟨o, Heap.get?_push_of_some _ ho, r⟩⟩ hsz hcell hkind ?_ ?_
  · intro C i v m₁ h tk own E' _ hP F N
    exact assign_comp (s := { s with heap := h, toks := tk }) F N hkind hx fun h' F' N' => turn C i v m₁ h' _ own E' hP F' N'
  · exact done
theorem comp_str {x : Str} {px : Pos} {u : Str} {t : Tok} (R : Nat → Value → Heap → Prop) (hh : A.handled = none) (hsz : u.cps.size ≤ sizeLine)
    (hcell : ∀ y ∈ scope.names, y.2 ≠ .cell) (hkind : scope.kind = .function) (hx : scope.names.lookup x = some .local) (hR : ∀ i y h h', R i y h → TupKeep h h' → R i y h')
    (turn : ∀ (C : Addr) (i c : Nat) (t' : Tok) (m₁ : Str → Option Value) (h : Heap) (tk : Nat) (own : List (Addr × Obj)) (E' : Value → Shared → Prop), u.cps[i]? = some c → Fr s.heap C h (fun y => if y = x then some (.str ⟨#[c]⟩ t') else m₁ y) → News s.heap C h own →
      wpAny (model prog w) A (eval elt (compEnv scope C env)) (EltEnd s.heap C own (R i) s) E' { s with heap := h, toks := tk })
    (done : ∀ D h tk ys, s.heap.get? D = none → (∀ b o, s.heap.get? b = some o → h.get? b = some o) → h.PlainList D ys → ys.size = u.cps.size → (∀ i y, ys[i]? = some y → R i y h) → Q (.ref D) { s with heap := h, toks := tk }) :
    wpAny (model prog w) A (pyIter (.str u t)) (fun it s₂ => CompT prog w A env elt (.Name x px) iter scope pos Q E it s₂) E s := by
  refine iter_str (x := x) (px := px) fun o St W hst => ?_
  refine comp_go (g := s.heap) (W A hh) R hR (fun b o e => Heap.get?_push_of_some _ e) (by rw [Heap.size_push]; exact Nat.le_succ _) (fun b hb => by rw [List.mem_singleton.mp hb]; cases e : s.heap.get? s.heap.objs.size with | none => rfl | some o => exact absurd (Heap.lt_size e) (Nat.lt_irrefl _))
    (fun b hb => by
      rw [Heap.size_push]
      rw [List.mem_singleton.mp hb]; exact Nat.lt_succ_self _) hst hsz hcell hkind ?_ ?_
  · rintro C i v m₁ h tk own E' _ ⟨c, t', hc, rfl⟩ F N
    exact assign_comp (s := { s with heap := h, toks := tk }) F N hkind hx fun h' F' N' => turn C i c t' m₁ h' _ own E' hc F' N'
  · exact done
end
end Mine
end
section
open PySem PySem.W PySem.Spec PySem.Calls PyProof.Rows
namespace Mine

def rnd (x : UInt64) : Int := Flt.toInt Float64.nearestOf x
def fin (x : UInt64) : Bool := !Float64.isNaN x && !Float64.isInf x
theorem fin_nan {x : UInt64} (h : fin x = true) (k : Float64.isNaN x = true) : False := by simp [fin, k] at h
theorem fin_inf {x : UInt64} (h : fin x = true) (k : Float64.isInf x = true) : False := by simp [fin, k] at h
def six (x : UInt64) : UInt64 := Float64.mul (Float64.ofInt 6) x
def whole3 (x : UInt64 × UInt64 × UInt64) : Int × Int × Int := (rnd (six x.1), rnd (six x.2.1), rnd (six x.2.2))
def wholeOk (x : UInt64 × UInt64 × UInt64) : Bool := fin (six x.1) && fin (six x.2.1) && fin (six x.2.2)
theorem valF3 {x y z : UInt64} {t1 t2 t3 : Tok} : valF #[(x, t1), (y, t2), (z, t3)] = #[.float x t1, .float y t2, .float z t3] := by simp [valF]
theorem wholeOk_at {x y z : UInt64} {t1 t2 t3 : Tok} (h : wholeOk (x, y, z) = true) (i : Nat) : fin (six (bitF #[(x, t1), (y, t2), (z, t3)] i)) = true := by
  simp only [wholeOk, Bool.and_eq_true] at h
  rcases i with _ | _ | _ | i
  · exact h.1.1
  · exact h.1.2
  · exact h.2
  · show fin (six ((none.map (fun p : UInt64 × Tok => p.1)).getD 0)) = true
    decide +kernel
/-- a new tuple of three ints -/
def Tup3I (s : Shared) (x : Int × Int × Int) (h' : Heap) (v : Value) : Prop :=
  ∃ a t1 t2 t3, v = .ref a ∧ h'.get? a = some { cls := .type "tuple", data := .seq #[.int x.1 t1, .int x.2.1 t2, .int x.2.2 t3] } ∧ s.heap.get? a = none
theorem ends_tup3i {s : Shared} {h' : Heap} {tk' : Nat} {L a : Addr} {m : Str → Option Value} {rest : List (Addr × Obj)} {x : Int × Int × Int} {y1 y2 y3 : Int} {t1 t2 t3 : Tok} (F : Fr s.heap L h' m)
    (N : News s.heap L h' ((a, { cls := .type "tuple", data := .seq #[.int y1 t1, .int y2 t2, .int y3 t3] }) :: rest)) (e : x = (y1, y2, y3)) : Ends s (Tup3I s x) (.ref a) { s with heap := h', toks := tk' } := by
  subst e
  exact ends_obj F N fun h1 h2 => ⟨a, t1, t2, t3, rfl, h1, h2⟩
theorem three_items {ys : Array Value} {P : Nat → Value → Prop} (hn : ys.size = 3) (h : ∀ i y, ys[i]? = some y → P i y) : ∃ a b c, ys = #[a, b, c] ∧ P 0 a ∧ P 1 b ∧ P 2 c := by
  obtain ⟨l⟩ := ys
  rcases l with _ | ⟨a, _ | ⟨b, _ | ⟨c, _ | ⟨d, l⟩⟩⟩⟩ <;> simp at hn
  exact ⟨a, b, c, rfl, h 0 a rfl, h 1 b rfl, h 2 c rfl⟩
set_option maxHeartbeats 4000000 in
theorem whole_does {w : World} {mean : ExcName → Option Value} {mg mb : Str → Option Value} {s : Shared} {c : Addr} {x : UInt64 × UInt64 × UInt64} {t1 t2 t3 : Tok} (hc : IsTup s.heap c #[.float x.1 t1, .float x.2.1 t2, .float x.2.2 t3]) (ok : wholeOk x = true) :
    Does w mean mg mb 1 99 [.ref c] s (Tup3I s (whole3 x)) := by
  k_with_none
  k_with "eval ListComp" => (k_dflt (k_here; (with_reducible refine' comp_open (by k_dflt (decide)) (by k_dflt (exact rfl)) (by k_dflt (decide)) ?_ (by k_dflt ((intro _; rfl)))); k_whole))
  k_with "eval Name" => (k_dflt (k_here; (with_reducible show wpAny _ _ (eval (Expr.Name _ _) (compEnv _ _ _)) _ _ _); (first | ((with_reducible refine' nameC_L (by k_dflt (k_asm)) (by k_dflt (exact rfl)) ?_ (by k_dflt (exact rfl)) (by k_dflt (exact rfl)) (by k_dflt (decide))); k_whole) | ((with_reducible refine' nameC_K (by k_dflt (k_asm)) (by k_dflt (k_asm)) (by k_dflt (k_asm)) (by k_dflt (k_is)) ?_ (by k_dflt (exact rfl)) (by k_dflt (exact rfl)) (by k_dflt (exact rfl)) (by k_dflt (decide))); k_whole) | ((with_reducible refine' nameC_B (by k_dflt (k_asm)) (by k_dflt (k_asm)) (by k_dflt (k_asm)) (by k_dflt (k_is)) (by k_dflt (boot_fast)) (by k_dflt (decide)) ?_ (by k_dflt (exact rfl)) (by k_dflt (exact rfl)) (by k_dflt (exact rfl)) (by k_dflt (exact rfl)) (by k_dflt (decide))); k_whole))))
  k_dflt (refine' enter (binds := [(Str.ofString "colour", .ref c)]) ?k6 ?k7 ?k9 ?kB ?_ ?c2 ?c3 ?c4 ?c5; (case k6 => k_is); (case k7 => k_is); (case k9 => exact BindsTo.of_eq rfl); (case c5 => decide); (case kB => exact locs rfl); (case c2 => exact rfl); (case c3 => exact rfl); (case c4 => exact rfl); k_whole; intro dp' un' gd' cn' cs' L0' a' ccd' cl' outer' base' L' h' B' F' N' X' T' hd' hu'; (try dsimp only); (try k_fold))
  k_steps
  have hc' : IsTup h' c (valF #[(x.1, t1), (x.2.1, t2), (x.2.2, t3)]) := by rw [valF3]; exact (TupKeep.grow F'.keep).tup hc
  have X9 := X'.keeps F'.keep
  have T9 := T'.keeps F'.keep
  refine comp_tuple (fun i v _ => ∃ t, v = .int (rnd (six (bitF #[(x.1, t1), (x.2.1, t2), (x.2.2, t3)] i))) t) rfl hc' (by rw [valF3]; show 3 ≤ sizeLine; decide) (by decide) rfl rfl (fun _ _ _ _ h _ => h) ?_ ?_
  · intro C9 i9 v9 m9 h9 tk9 own9 E9 hi9 F9 N9
    obtain ⟨t9, rfl⟩ := valF_at hi9
    dsimp only at F9 N9
    have ok9 := wholeOk_at (t1 := t1) (t2 := t2) (t3 := t3) ok i9
    clear F' N' X' T' hc hc' hi9
    k_steps
    all_goals first
      | exact (fin_nan ok9 (by assumption)).elim
      | exact (fin_inf ok9 (by assumption)).elim
      | exact ⟨_, _, _, _, rfl, F9, N9, fun _ h => h, _, rfl⟩
  · intro D9 h9 tk9 ys9 hD9 hk9 hl9 hn9 hR9
    obtain ⟨y0, y1, y2, rfl, ⟨u0, rfl⟩, ⟨u1, rfl⟩, ⟨u2, rfl⟩⟩ := three_items (by rw [hn9, valF3]; rfl) hR9
    obtain ⟨n9, eD9⟩ := hl9
    have F9 := fr_grow F' hk9
    have N9 := news_add F' N' hk9 eD9 hD9
    clear X9 T9 F' N' hc hc' hR9 hn9 hk9 hD9 eD9
    k_steps
    exact ends_tup3i (by assumption) (by assumption) rfl
end Mine
end
section
open PySem PySem.W PySem.Spec PySem.Calls PyProof.Rows
namespace Mine
/-- a text of at most k signs -/
def Short (k : Nat) (x : Str) : Prop := x.length ≤ k
theorem short_int {n : Int} (h0 : 0 ≤ n) (h1 : n < 1000) : Short 3 (Str.ofString (toString n)) := toString_length_le (k := 3) h0 (by decide) (by simpa using h1)
theorem short_lit {k : Nat} {x : Str} (h : decide (x.length ≤ k) = true) : Short k x := of_decide_eq_true (p := x.length ≤ k) h
theorem short_add {a b : Nat} {x y : Str} (hx : Short a x) (hy : Short b y) : Short (a + b) (x ++ y) := by
  unfold Short at *
  rw [Str.length_append]; omega
section
variable {prog : Program} {w : World} {A : Around} {E : Value → Shared → Prop} {s : Shared} {Q : Value → Shared → Prop}
theorem add_short {a b : Nat} {x y : Str} {t u : Tok} (hx : Short a x) (hy : Short b y) (hab : a + b ≤ 16777216) (h : ∀ t' k, Short (a + b) (x ++ y) → Q (.str (x ++ y) t') { s with toks := k }) :
    wpAny (model prog w) A (binaryOp .Add (.str x t) (.str y u)) Q E s :=
  PyProof.Rows.add_str (fun t' k => h t' k (short_add hx hy)) (by unfold Short at *; rw [sizeLine_eq]; omega)
def pick (k : Int) (x y z : Str) : Str := if k = 0 then x else if k = 1 then y else z
theorem pick_short {k : Int} {x y z : Str} {n : Nat} (hx : Short n x) (hy : Short n y) (hz : Short n z) : Short n (pick k x y z) := by
  unfold pick
  split
  · exact hx
  · split
    · exact hy
    · exact hz
theorem pick_item {value slice : Expr} {a : Addr} {k : Int} {u tx ty tz : Tok} {x y z : Str} (ht : IsTup s.heap a #[.str x tx, .str y ty, .str z tz]) (h0 : 0 ≤ k) (h1 : k < 3) (hx : Short 1 x) (hy : Short 1 y) (hz : Short 1 z)
    (h : ∀ t, Short 1 (pick k x y z) → Q (.str (pick k x y z) t) s)
    (hs : subscripted slice false (.ref a) (.int k u) = operate [.ref a, .int k u] (getItem (.ref a) (.int k u))) :
    wpAny (model prog w) A (subscriptTail value slice (.ref a) (.int k u)) Q E s := by
  have hp : Short 1 (pick k x y z) := pick_short hx hy hz
  have : k = 0 ∨ k = 1 ∨ k = 2 := by omega
  rcases this with rfl | rfl | rfl
  · exact item_tupleT (l := [.str x tx, .str y ty, .str z tz]) ht (by decide) (by decide) (j := 0) rfl rfl (h _ hp) hs
  · exact item_tupleT (l := [.str x tx, .str y ty, .str z tz]) ht (by decide) (by decide) (j := 1) rfl rfl (h _ hp) hs
  · exact item_tupleT (l := [.str x tx, .str y ty, .str z tz]) ht (by decide) (by decide) (j := 2) rfl rfl (h _ hp) hs
end
end Mine
end
section
open PySem PySem.W PySem.Spec PySem.Calls PyProof.Rows
namespace Mine
theorem strs_of {α : Type} {f : α → Str} : ∀ {l : List α} {ys : List Value}, ys.length = l.length → (∀ (i : Nat) (y : Value), ys[i]? = some y → ∃ a t, l[i]? = some a ∧ y = Value.str (f a) t) → StrsAre ys (l.map f)
  | [], ys, hn, _ => by
    cases ys with
    | nil => exact .nil
    | cons y ys => simp at hn
  | a :: l, ys, hn, h => by
    cases ys with
    | nil => simp at hn
    | cons y ys =>
      obtain ⟨a', t, e, rfl⟩ := h 0 y rfl
      cases e
      exact .cons _ _ (strs_of (by simpa using hn) fun i y hy => h (i + 1) y (by simpa using hy))
def Weigh (n : Nat) (ys : List Str) : Prop := (ys.map (·.length)).sum + ys.length ≤ n
theorem weigh_map {α : Type} (g : α → Str) (B : Nat) (l : List α) (h : ∀ a ∈ l, Short B (g a)) (n : Nat) (hn : (B + 1) * l.length ≤ n) : Weigh n (l.map g) := by
  have := sumLen_le_of_bound g B l h
  unfold Weigh
  rw [List.length_map]
  rw [Nat.add_mul, Nat.one_mul] at hn
  omega
section
variable {prog : Program} {w : World} {A : Around} {E : Value → Shared → Prop} {s : Shared} {Q : Value → Shared → Prop}
theorem join_short {D : Addr} {items : Array Value} {ys : List Str} {x : Str} {t : Tok} {n : Nat} (hl : s.heap.IsList D items) (hi : StrsAre items.toList ys) (hx : x.length ≤ 1) (hw : Weigh n ys) (hn : n ≤ 1048576)
    (h : ∀ t' k, Short n (Txt.join x ys) → Q (.str (Txt.join x ys) t') { s with toks := k }) : wpAny (model prog w) A (call (.builtin "str.join") [.str x t, .ref D]) Q E s := by
  refine join_listW hl hi (by omega) (Nat.le_trans hw hn) fun t' k => h t' k ?_
  have h1 : Txt.join x ys = Str.join x ys := by
    have := join_closes (sep := x) (sep' := x) (ys := ys) rfl
    simpa using this
  have h2 := StrLaws.join_length_le x ys
  unfold Short
  rw [h1]
  unfold Weigh at hw
  have h3 : ys.length * x.length ≤ ys.length * 1 := Nat.mul_le_mul_left _ hx
  omega
end
theorem short_sign (c : Nat) : Short 1 ⟨#[c]⟩ := Nat.le_refl 1
abbrev txt (n : Int) : Str := Str.ofString (toString n)
def slashed (x : Str) : Str := Txt.join (Str.ofString "") (x.cps.toList.map fun c => Str.ofString "\\" ++ ⟨#[c]⟩)
def itemIn (one other way : Int) : Str :=
  if way = 1 then slashed (txt one ++ Str.ofString "," ++ txt other)
  else if way = 2 then Str.ofString " " ++ txt one ++ Str.ofString "\t, " ++ txt other ++ Str.ofString " "
  else if way = 3 then txt one ++ Str.ofString "," ++ txt other ++ Str.ofString ","
  else txt one ++ Str.ofString "," ++ txt other
def itemMid (one other way : Int) : Str := if way = 4 then txt one ++ Str.ofString "=" ++ txt other else Str.ofString "\"" ++ itemIn one other way ++ Str.ofString "\""
def itemT (hue one other way gap : Int) : Str :=
  pick gap (Str.ofString "") (Str.ofString " ") (Str.ofString "\t") ++ txt hue ++ Str.ofString "=" ++ itemMid one other way ++ pick gap (Str.ofString "") (Str.ofString "\t") (Str.ofString " ")
/-- a text and its bound -/
def StrOut (k : Nat) (x : Str) (_ : Heap) (v : Value) : Prop := (∃ t, v = .str x t) ∧ Short k x
theorem ends_short {s : Shared} {h' : Heap} {tk' : Nat} {L : Addr} {m : Str → Option Value} {k k' : Nat} {x y : Str} {t : Tok} (F : Fr s.heap L h' m) (e : x = y) (hs : Short k' y) (hk : k' ≤ k) : Ends s (StrOut k x) (.str y t) { s with heap := h', toks := tk' } :=
  ends_val F ⟨⟨t, by rw [e]⟩, by rw [e]; exact Nat.le_trans hs hk⟩
end Mine
end
section
open PySem PySem.W PySem.Spec PySem.Calls PyProof.Rows
namespace Mine

set_option maxHeartbeats 4000000 in
theorem item0_does {w : World} {mean : ExcName → Option Value} {mg mb : Str → Option Value} {s : Shared} {hue one other gap : Int} {t1 t2 t3 t4 t5 : Tok} (h1 : 0 ≤ hue) (h2 : hue < 1000) (h3 : 0 ≤ one) (h4 : one < 1000) (h5 : 0 ≤ other) (h6 : other < 1000) (h7 : 0 ≤ gap) (h8 : gap < 3) :
    Does w mean mg mb 1 73 [.int hue t1, .int one t2, .int other t3, .int 0 t4, .int gap t5] s (StrOut 60 (itemT hue one other 0 gap)) := by
  k_with_none
  k_with "eval ListComp" => (k_dflt (k_here; (with_reducible refine' comp_open (by k_dflt (decide)) (by k_dflt (exact rfl)) (by k_dflt (decide)) ?_ (by k_dflt ((intro _; rfl)))); k_whole))
  k_with "eval Name" => (k_dflt (k_here; (with_reducible show wpAny _ _ (eval (Expr.Name _ _) (compEnv _ _ _)) _ _ _); (first | ((with_reducible refine' nameC_L (by k_dflt (k_asm)) (by k_dflt (exact rfl)) ?_ (by k_dflt (exact rfl)) (by k_dflt (exact rfl)) (by k_dflt (decide))); k_whole) | ((with_reducible refine' nameC_K (by k_dflt (k_asm)) (by k_dflt (k_asm)) (by k_dflt (k_asm)) (by k_dflt (k_is)) ?_ (by k_dflt (exact rfl)) (by k_dflt (exact rfl)) (by k_dflt (exact rfl)) (by k_dflt (decide))); k_whole) | ((with_reducible refine' nameC_B (by k_dflt (k_asm)) (by k_dflt (k_asm)) (by k_dflt (k_asm)) (by k_dflt (k_is)) (by k_dflt (boot_fast)) (by k_dflt (decide)) ?_ (by k_dflt (exact rfl)) (by k_dflt (exact rfl)) (by k_dflt (exact rfl)) (by k_dflt (exact rfl)) (by k_dflt (decide))); k_whole))))
  k_with "binaryOp Add str str" => (k_dflt (k_here; (with_reducible show wpAny _ _ (binaryOp Operator.Add (Value.str _ _) (Value.str _ _)) _ _ _); (with_reducible refine' add_short (by k_dflt (first | with_reducible assumption | (with_reducible exact short_int (by assumption) (by assumption)) | exact short_lit (k := 4) (by decide))) (by k_dflt (first | with_reducible assumption | (with_reducible exact short_int (by assumption) (by assumption)) | exact short_lit (k := 4) (by decide))) (by k_dflt (decide)) ?_); k_whole; intro _ _ _))
  k_with "subscriptTail" => (k_dflt (k_here; (with_reducible show wpAny _ _ (subscriptTail _ _ (Value.ref _) (Value.int _ _)) _ _ _); (with_reducible refine' pick_item (by k_dflt (exact News.isTup (by k_asm) (by k_mem))) (by k_dflt (assumption)) (by k_dflt (assumption)) (by k_dflt (exact short_lit (by decide))) (by k_dflt (exact short_lit (by decide))) (by k_dflt (exact short_lit (by decide))) ?_ (by k_dflt (with_unfolding_all rfl))); k_whole; intro _ _))
  k_with "call builtin:str.join" => (k_dflt (k_here; (with_reducible show wpAny _ _ (call (Value.builtin _) [Value.str _ _, Value.ref _]) _ _ _); (with_reducible refine' join_short (by k_dflt (exact News.isList (by k_asm) (by k_mem))) (by k_dflt (assumption)) (by k_dflt (decide)) (by k_dflt (assumption)) (by k_dflt (decide)) ?_); k_whole; intro _ _ _))
  k_with "ite" => (k_dflt ((with_reducible show ite (_ = true) _ _); (with_reducible refine ite_split ?_ ?_) <;> intro _))
  k_with "ite" => (k_dflt (k_closed; (first | (with_reducible refine ite_neg (by k_dflt (decide)) ?_) | (with_reducible refine ite_pos (by k_dflt (decide)) ?_))))
  k_dflt (refine' enter (binds := [(Str.ofString "hue", .int hue t1), (Str.ofString "one", .int one t2), (Str.ofString "other", .int other t3), (Str.ofString "way", .int 0 t4), (Str.ofString "gap", .int gap t5)]) ?k6 ?k7 ?k9 ?kB ?_ ?c2 ?c3 ?c4 ?c5; (case k6 => k_is); (case k7 => k_is); (case k9 => exact BindsTo.of_eq rfl); (case c5 => decide); (case kB => exact locs rfl); (case c2 => exact rfl); (case c3 => exact rfl); (case c4 => exact rfl); k_whole; intro dp' un' gd' cn' cs' L0' a' ccd' cl' outer' base' L' h' B' F' N' X' T' hd' hu'; (try dsimp only); (try k_fold))
  k_steps
  exact ends_short (by assumption) rfl (by assumption) (by decide)

set_option maxHeartbeats 4000000 in
theorem item1_does {w : World} {mean : ExcName → Option Value} {mg mb : Str → Option Value} {s : Shared} {hue one other gap : Int} {t1 t2 t3 t4 t5 : Tok} (h1 : 0 ≤ hue) (h2 : hue < 1000) (h3 : 0 ≤ one) (h4 : one < 1000) (h5 : 0 ≤ other) (h6 : other < 1000) (h7 : 0 ≤ gap) (h8 : gap < 3) :
    Does w mean mg mb 1 73 [.int hue t1, .int one t2, .int other t3, .int 1 t4, .int gap t5] s (StrOut 60 (itemT hue one other 1 gap)) := by
  k_with_none
  k_with "eval ListComp" => (k_dflt (k_here; (with_reducible refine' comp_open (by k_dflt (decide)) (by k_dflt (exact rfl)) (by k_dflt (decide)) ?_ (by k_dflt ((intro _; rfl)))); k_whole))
  k_with "eval Name" => (k_dflt (k_here; (with_reducible show wpAny _ _ (eval (Expr.Name _ _) (compEnv _ _ _)) _ _ _); (first | ((with_reducible refine' nameC_L (by k_dflt (k_asm)) (by k_dflt (exact rfl)) ?_ (by k_dflt (exact rfl)) (by k_dflt (exact rfl)) (by k_dflt (decide))); k_whole) | ((with_reducible refine' nameC_K (by k_dflt (k_asm)) (by k_dflt (k_asm)) (by k_dflt (k_asm)) (by k_dflt (k_is)) ?_ (by k_dflt (exact rfl)) (by k_dflt (exact rfl)) (by k_dflt (exact rfl)) (by k_dflt (decide))); k_whole) | ((with_reducible refine' nameC_B (by k_dflt (k_asm)) (by k_dflt (k_asm)) (by k_dflt (k_asm)) (by k_dflt (k_is)) (by k_dflt (boot_fast)) (by k_dflt (decide)) ?_ (by k_dflt (exact rfl)) (by k_dflt (exact rfl)) (by k_dflt (exact rfl)) (by k_dflt (exact rfl)) (by k_dflt (decide))); k_whole))))
  k_with "binaryOp Add str str" => (k_dflt (k_here; (with_reducible show wpAny _ _ (binaryOp Operator.Add (Value.str _ _) (Value.str _ _)) _ _ _); (with_reducible refine' add_short (by k_dflt (first | with_reducible assumption | (with_reducible exact short_int (by assumption) (by assumption)) | exact short_lit (k := 4) (by decide))) (by k_dflt (first | with_reducible assumption | (with_reducible exact short_int (by assumption) (by assumption)) | exact short_lit (k := 4) (by decide))) (by k_dflt (decide)) ?_); k_whole; intro _ _ _))
  k_with "subscriptTail" => (k_dflt (k_here; (with_reducible show wpAny _ _ (subscriptTail _ _ (Value.ref _) (Value.int _ _)) _ _ _); (with_reducible refine' pick_item (by k_dflt (exact News.isTup (by k_asm) (by k_mem))) (by k_dflt (assumption)) (by k_dflt (assumption)) (by k_dflt (exact short_lit (by decide))) (by k_dflt (exact short_lit (by decide))) (by k_dflt (exact short_lit (by decide))) ?_ (by k_dflt (with_unfolding_all rfl))); k_whole; intro _ _))
  k_with "call builtin:str.join" => (k_dflt (k_here; (with_reducible show wpAny _ _ (call (Value.builtin _) [Value.str _ _, Value.ref _]) _ _ _); (with_reducible refine' join_short (by k_dflt (exact News.isList (by k_asm) (by k_mem))) (by k_dflt (assumption)) (by k_dflt (decide)) (by k_dflt (assumption)) (by k_dflt (decide)) ?_); k_whole; intro _ _ _))
  k_with "ite" => (k_dflt ((with_reducible show ite (_ = true) _ _); (with_reducible refine ite_split ?_ ?_) <;> intro _))
  k_with "ite" => (k_dflt (k_closed; (first | (with_reducible refine ite_neg (by k_dflt (decide)) ?_) | (with_reducible refine ite_pos (by k_dflt (decide)) ?_))))
  k_dflt (refine' enter (binds := [(Str.ofString "hue", .int hue t1), (Str.ofString "one", .int one t2), (Str.ofString "other", .int other t3), (Str.ofString "way", .int 1 t4), (Str.ofString "gap", .int gap t5)]) ?k6 ?k7 ?k9 ?kB ?_ ?c2 ?c3 ?c4 ?c5; (case k6 => k_is); (case k7 => k_is); (case k9 => exact BindsTo.of_eq rfl); (case c5 => decide); (case kB => exact locs rfl); (case c2 => exact rfl); (case c3 => exact rfl); (case c4 => exact rfl); k_whole; intro dp' un' gd' cn' cs' L0' a' ccd' cl' outer' base' L' h' B' F' N' X' T' hd' hu'; (try dsimp only); (try k_fold))
  k_steps
  (with_reducible rename Fr _ _ _ _ => F8); (with_reducible rename News _ _ _ _ => N8)
  have X9 := X'.keeps F8.keep
  have T9 := T'.keeps F8.keep
  have hS : Short 10 (txt one ++ Str.ofString "," ++ txt other) := by assumption
  refine comp_str (fun i v _ => ∃ c t, (txt one ++ Str.ofString "," ++ txt other).cps[i]? = some c ∧ v = .str (Str.ofString "\\" ++ ⟨#[c]⟩) t) rfl (Nat.le_trans hS (by rw [sizeLine_eq]; decide)) (by decide) rfl rfl (fun _ _ _ _ h _ => h) ?_ ?_
  · intro C9 i9 c9 t9 m9 h9 tk9 own9 E9 hi9 F9 N9
    dsimp only at F9 N9
    have hs9 : Short 1 ⟨#[c9]⟩ := Nat.le_refl 1
    clear F8 N8 X' T'
    k_steps
    exact ⟨_, _, _, _, rfl, F9, N9, fun _ h => h, _, _, hi9, rfl⟩
  · intro D9 h9 tk9 ys9 hD9 hk9 hl9 hn9 hR9
    have hA9 : StrsAre ys9.toList ((txt one ++ Str.ofString "," ++ txt other).cps.toList.map fun c => Str.ofString "\\" ++ ⟨#[c]⟩) :=
      strs_of (by rw [Array.length_toList, Array.length_toList]; exact hn9) fun i y hy => by
        obtain ⟨c, t, e1, e2⟩ := hR9 i y (by simpa using hy)
        exact ⟨c, t, by simpa using e1, e2⟩
    have hW9 : Weigh 30 ((txt one ++ Str.ofString "," ++ txt other).cps.toList.map fun c => Str.ofString "\\" ++ ⟨#[c]⟩) :=
      weigh_map _ 2 _ (fun c _ => short_add (a := 1) (b := 1) (short_lit (by decide)) (short_sign c)) 30 (by
        have : (txt one ++ Str.ofString "," ++ txt other).cps.toList.length ≤ 10 := by rw [Array.length_toList]; exact hS
        omega)
    obtain ⟨n9, eD9⟩ := hl9
    have F9 := fr_grow F8 hk9
    have N9 := news_add F8 N8 hk9 eD9 hD9
    clear X9 T9 F8 N8 hn9 hR9 hk9 hD9 eD9 hS
    k_steps
    exact ends_short (by assumption) rfl (by assumption) (by decide)

set_option maxHeartbeats 4000000 in
theorem item2_does {w : World} {mean : ExcName → Option Value} {mg mb : Str → Option Value} {s : Shared} {hue one other gap : Int} {t1 t2 t3 t4 t5 : Tok} (h1 : 0 ≤ hue) (h2 : hue < 1000) (h3 : 0 ≤ one) (h4 : one < 1000) (h5 : 0 ≤ other) (h6 : other < 1000) (h7 : 0 ≤ gap) (h8 : gap < 3) :
    Does w mean mg mb 1 73 [.int hue t1, .int one t2, .int other t3, .int 2 t4, .int gap t5] s (StrOut 60 (itemT hue one other 2 gap)) := by
  k_with_none
  k_with "eval ListComp" => (k_dflt (k_here; (with_reducible refine' comp_open (by k_dflt (decide)) (by k_dflt (exact rfl)) (by k_dflt (decide)) ?_ (by k_dflt ((intro _; rfl)))); k_whole))
  k_with "eval Name" => (k_dflt (k_here; (with_reducible show wpAny _ _ (eval (Expr.Name _ _) (compEnv _ _ _)) _ _ _); (first | ((with_reducible refine' nameC_L (by k_dflt (k_asm)) (by k_dflt (exact rfl)) ?_ (by k_dflt (exact rfl)) (by k_dflt (exact rfl)) (by k_dflt (decide))); k_whole) | ((with_reducible refine' nameC_K (by k_dflt (k_asm)) (by k_dflt (k_asm)) (by k_dflt (k_asm)) (by k_dflt (k_is)) ?_ (by k_dflt (exact rfl)) (by k_dflt (exact rfl)) (by k_dflt (exact rfl)) (by k_dflt (decide))); k_whole) | ((with_reducible refine' nameC_B (by k_dflt (k_asm)) (by k_dflt (k_asm)) (by k_dflt (k_asm)) (by k_dflt (k_is)) (by k_dflt (boot_fast)) (by k_dflt (decide)) ?_ (by k_dflt (exact rfl)) (by k_dflt (exact rfl)) (by k_dflt (exact rfl)) (by k_dflt (exact rfl)) (by k_dflt (decide))); k_whole))))
  k_with "binaryOp Add str str" => (k_dflt (k_here; (with_reducible show wpAny _ _ (binaryOp Operator.Add (Value.str _ _) (Value.str _ _)) _ _ _); (with_reducible refine' add_short (by k_dflt (first | with_reducible assumption | (with_reducible exact short_int (by assumption) (by assumption)) | exact short_lit (k := 4) (by decide))) (by k_dflt (first | with_reducible assumption | (with_reducible exact short_int (by assumption) (by assumption)) | exact short_lit (k := 4) (by decide))) (by k_dflt (decide)) ?_); k_whole; intro _ _ _))
  k_with "subscriptTail" => (k_dflt (k_here; (with_reducible show wpAny _ _ (subscriptTail _ _ (Value.ref _) (Value.int _ _)) _ _ _); (with_reducible refine' pick_item (by k_dflt (exact News.isTup (by k_asm) (by k_mem))) (by k_dflt (assumption)) (by k_dflt (assumption)) (by k_dflt (exact short_lit (by decide))) (by k_dflt (exact short_lit (by decide))) (by k_dflt (exact short_lit (by decide))) ?_ (by k_dflt (with_unfolding_all rfl))); k_whole; intro _ _))
  k_with "call builtin:str.join" => (k_dflt (k_here; (with_reducible show wpAny _ _ (call (Value.builtin _) [Value.str _ _, Value.ref _]) _ _ _); (with_reducible refine' join_short (by k_dflt (exact News.isList (by k_asm) (by k_mem))) (by k_dflt (assumption)) (by k_dflt (decide)) (by k_dflt (assumption)) (by k_dflt (decide)) ?_); k_whole; intro _ _ _))
  k_with "ite" => (k_dflt ((with_reducible show ite (_ = true) _ _); (with_reducible refine ite_split ?_ ?_) <;> intro _))
  k_with "ite" => (k_dflt (k_closed; (first | (with_reducible refine ite_neg (by k_dflt (decide)) ?_) | (with_reducible refine ite_pos (by k_dflt (decide)) ?_))))
  k_dflt (refine' enter (binds := [(Str.ofString "hue", .int hue t1), (Str.ofString "one", .int one t2), (Str.ofString "other", .int other t3), (Str.ofString "way", .int 2 t4), (Str.ofString "gap", .int gap t5)]) ?k6 ?k7 ?k9 ?kB ?_ ?c2 ?c3 ?c4 ?c5; (case k6 => k_is); (case k7 => k_is); (case k9 => exact BindsTo.of_eq rfl); (case c5 => decide); (case kB => exact locs rfl); (case c2 => exact rfl); (case c3 => exact rfl); (case c4 => exact rfl); k_whole; intro dp' un' gd' cn' cs' L0' a' ccd' cl' outer' base' L' h' B' F' N' X' T' hd' hu'; (try dsimp only); (try k_fold))
  k_steps
  exact ends_short (by assumption) rfl (by assumption) (by decide)

set_option maxHeartbeats 4000000 in
theorem item3_does {w : World} {mean : ExcName → Option Value} {mg mb : Str → Option Value} {s : Shared} {hue one other gap : Int} {t1 t2 t3 t4 t5 : Tok} (h1 : 0 ≤ hue) (h2 : hue < 1000) (h3 : 0 ≤ one) (h4 : one < 1000) (h5 : 0 ≤ other) (h6 : other < 1000) (h7 : 0 ≤ gap) (h8 : gap < 3) :
    Does w mean mg mb 1 73 [.int hue t1, .int one t2, .int other t3, .int 3 t4, .int gap t5] s (StrOut 60 (itemT hue one other 3 gap)) := by
  k_with_none
  k_with "eval ListComp" => (k_dflt (k_here; (with_reducible refine' comp_open (by k_dflt (decide)) (by k_dflt (exact rfl)) (by k_dflt (decide)) ?_ (by k_dflt ((intro _; rfl)))); k_whole))
  k_with "eval Name" => (k_dflt (k_here; (with_reducible show wpAny _ _ (eval (Expr.Name _ _) (compEnv _ _ _)) _ _ _); (first | ((with_reducible refine' nameC_L (by k_dflt (k_asm)) (by k_dflt (exact rfl)) ?_ (by k_dflt (exact rfl)) (by k_dflt (exact rfl)) (by k_dflt (decide))); k_whole) | ((with_reducible refine' nameC_K (by k_dflt (k_asm)) (by k_dflt (k_asm)) (by k_dflt (k_asm)) (by k_dflt (k_is)) ?_ (by k_dflt (exact rfl)) (by k_dflt (exact rfl)) (by k_dflt (exact rfl)) (by k_dflt (decide))); k_whole) | ((with_reducible refine' nameC_B (by k_dflt (k_asm)) (by k_dflt (k_asm)) (by k_dflt (k_asm)) (by k_dflt (k_is)) (by k_dflt (boot_fast)) (by k_dflt (decide)) ?_ (by k_dflt (exact rfl)) (by k_dflt (exact rfl)) (by k_dflt (exact rfl)) (by k_dflt (exact rfl)) (by k_dflt (decide))); k_whole))))
  k_with "binaryOp Add str str" => (k_dflt (k_here; (with_reducible show wpAny _ _ (binaryOp Operator.Add (Value.str _ _) (Value.str _ _)) _ _ _); (with_reducible refine' add_short (by k_dflt (first | with_reducible assumption | (with_reducible exact short_int (by assumption) (by assumption)) | exact short_lit (k := 4) (by decide))) (by k_dflt (first | with_reducible assumption | (with_reducible exact short_int (by assumption) (by assumption)) | exact short_lit (k := 4) (by decide))) (by k_dflt (decide)) ?_); k_whole; intro _ _ _))
  k_with "subscriptTail" => (k_dflt (k_here; (with_reducible show wpAny _ _ (subscriptTail _ _ (Value.ref _) (Value.int _ _)) _ _ _); (with_reducible refine' pick_item (by k_dflt (exact News.isTup (by k_asm) (by k_mem))) (by k_dflt (assumption)) (by k_dflt (assumption)) (by k_dflt (exact short_lit (by decide))) (by k_dflt (exact short_lit (by decide))) (by k_dflt (exact short_lit (by decide))) ?_ (by k_dflt (with_unfolding_all rfl))); k_whole; intro _ _))
  k_with "call builtin:str.join" => (k_dflt (k_here; (with_reducible show wpAny _ _ (call (Value.builtin _) [Value.str _ _, Value.ref _]) _ _ _); (with_reducible refine' join_short (by k_dflt (exact News.isList (by k_asm) (by k_mem))) (by k_dflt (assumption)) (by k_dflt (decide)) (by k_dflt (assumption)) (by k_dflt (decide)) ?_); k_whole; intro _ _ _))
  k_with "ite" => (k_dflt ((with_reducible show ite (_ = true) _ _); (with_reducible refine ite_split ?_ ?_) <;> intro _))
  k_with "ite" => (k_dflt (k_closed; (first | (with_reducible refine ite_neg (by k_dflt (decide)) ?_) | (with_reducible refine ite_pos (by k_dflt (decide)) ?_))))
  k_dflt (refine' enter (binds := [(Str.ofString "hue", .int hue t1), (Str.ofString "one", .int one t2), (Str.ofString "other", .int other t3), (Str.ofString "way", .int 3 t4), (Str.ofString "gap", .int gap t5)]) ?k6 ?k7 ?k9 ?kB ?_ ?c2 ?c3 ?c4 ?c5; (case k6 => k_is); (case k7 => k_is); (case k9 => exact BindsTo.of_eq rfl); (case c5 => decide); (case kB => exact locs rfl); (case c2 => exact rfl); (case c3 => exact rfl); (case c4 => exact rfl); k_whole; intro dp' un' gd' cn' cs' L0' a' ccd' cl' outer' base' L' h' B' F' N' X' T' hd' hu'; (try dsimp only); (try k_fold))
  k_steps
  exact ends_short (by assumption) rfl (by assumption) (by decide)

set_option maxHeartbeats 4000000 in
theorem item4_does {w : World} {mean : ExcName → Option Value} {mg mb : Str → Option Value} {s : Shared} {hue one other gap : Int} {t1 t2 t3 t4 t5 : Tok} (h1 : 0 ≤ hue) (h2 : hue < 1000) (h3 : 0 ≤ one) (h4 : one < 1000) (h5 : 0 ≤ other) (h6 : other < 1000) (h7 : 0 ≤ gap) (h8 : gap < 3) :
    Does w mean mg mb 1 73 [.int hue t1, .int one t2, .int other t3, .int 4 t4, .int gap t5] s (StrOut 60 (itemT hue one other 4 gap)) := by
  k_with_none
  k_with "eval ListComp" => (k_dflt (k_here; (with_reducible refine' comp_open (by k_dflt (decide)) (by k_dflt (exact rfl)) (by k_dflt (decide)) ?_ (by k_dflt ((intro _; rfl)))); k_whole))
  k_with "eval Name" => (k_dflt (k_here; (with_reducible show wpAny _ _ (eval (Expr.Name _ _) (compEnv _ _ _)) _ _ _); (first | ((with_reducible refine' nameC_L (by k_dflt (k_asm)) (by k_dflt (exact rfl)) ?_ (by k_dflt (exact rfl)) (by k_dflt (exact rfl)) (by k_dflt (decide))); k_whole) | ((with_reducible refine' nameC_K (by k_dflt (k_asm)) (by k_dflt (k_asm)) (by k_dflt (k_asm)) (by k_dflt (k_is)) ?_ (by k_dflt (exact rfl)) (by k_dflt (exact rfl)) (by k_dflt (exact rfl)) (by k_dflt (decide))); k_whole) | ((with_reducible refine' nameC_B (by k_dflt (k_asm)) (by k_dflt (k_asm)) (by k_dflt (k_asm)) (by k_dflt (k_is)) (by k_dflt (boot_fast)) (by k_dflt (decide)) ?_ (by k_dflt (exact rfl)) (by k_dflt (exact rfl)) (by k_dflt (exact rfl)) (by k_dflt (exact rfl)) (by k_dflt (decide))); k_whole))))
  k_with "binaryOp Add str str" => (k_dflt (k_here; (with_reducible show wpAny _ _ (binaryOp Operator.Add (Value.str _ _) (Value.str _ _)) _ _ _); (with_reducible refine' add_short (by k_dflt (first | with_reducible assumption | (with_reducible exact short_int (by assumption) (by assumption)) | exact short_lit (k := 4) (by decide))) (by k_dflt (first | with_reducible assumption | (with_reducible exact short_int (by assumption) (by assumption)) | exact short_lit (k := 4) (by decide))) (by k_dflt (decide)) ?_); k_whole; intro _ _ _))
  k_with "subscriptTail" => (k_dflt (k_here; (with_reducible show wpAny _ _ (subscriptTail _ _ (Value.ref _) (Value.int _ _)) _ _ _); (with_reducible refine' pick_item (by k_dflt (exact News.isTup (by k_asm) (by k_mem))) (by k_dflt (assumption)) (by k_dflt (assumption)) (by k_dflt (exact short_lit (by decide))) (by k_dflt (exact short_lit (by decide))) (by k_dflt (exact short_lit (by decide))) ?_ (by k_dflt (with_unfolding_all rfl))); k_whole; intro _ _))
  k_with "call builtin:str.join" => (k_dflt (k_here; (with_reducible show wpAny _ _ (call (Value.builtin _) [Value.str _ _, Value.ref _]) _ _ _); (with_reducible refine' join_short (by k_dflt (exact News.isList (by k_asm) (by k_mem))) (by k_dflt (assumption)) (by k_dflt (decide)) (by k_dflt (assumption)) (by k_dflt (decide)) ?_); k_whole; intro _ _ _))
  k_with "ite" => (k_dflt ((with_reducible show ite (_ = true) _ _); (with_reducible refine ite_split ?_ ?_) <;> intro _))
  k_with "ite" => (k_dflt (k_closed; (first | (with_reducible refine ite_neg (by k_dflt (decide)) ?_) | (with_reducible refine ite_pos (by k_dflt (decide)) ?_))))
  k_dflt (refine' enter (binds := [(Str.ofString "hue", .int hue t1), (Str.ofString "one", .int one t2), (Str.ofString "other", .int other t3), (Str.ofString "way", .int 4 t4), (Str.ofString "gap", .int gap t5)]) ?k6 ?k7 ?k9 ?kB ?_ ?c2 ?c3 ?c4 ?c5; (case k6 => k_is); (case k7 => k_is); (case k9 => exact BindsTo.of_eq rfl); (case c5 => decide); (case kB => exact locs rfl); (case c2 => exact rfl); (case c3 => exact rfl); (case c4 => exact rfl); k_whole; intro dp' un' gd' cn' cs' L0' a' ccd' cl' outer' base' L' h' B' F' N' X' T' hd' hu'; (try dsimp only); (try k_fold))
  k_steps
  exact ends_short (by assumption) rfl (by assumption) (by decide)
theorem item_does {w : World} {mean : ExcName → Option Value} {mg mb : Str → Option Value} {s : Shared} {hue one other way gap : Int} {t1 t2 t3 t4 t5 : Tok} (h1 : 0 ≤ hue) (h2 : hue < 1000) (h3 : 0 ≤ one) (h4 : one < 1000) (h5 : 0 ≤ other) (h6 : other < 1000) (h7 : 0 ≤ gap) (h8 : gap < 3) (h9 : 0 ≤ way) (h10 : way < 5) :
    Does w mean mg mb 1 73 [.int hue t1, .int one t2, .int other t3, .int way t4, .int gap t5] s (StrOut 60 (itemT hue one other way gap)) := by
  have : way = 0 ∨ way = 1 ∨ way = 2 ∨ way = 3 ∨ way = 4 := by omega
  rcases this with rfl | rfl | rfl | rfl | rfl
  · exact item0_does h1 h2 h3 h4 h5 h6 h7 h8
  · exact item1_does h1 h2 h3 h4 h5 h6 h7 h8
  · exact item2_does h1 h2 h3 h4 h5 h6 h7 h8
  · exact item3_does h1 h2 h3 h4 h5 h6 h7 h8
  · exact item4_does h1 h2 h3 h4 h5 h6 h7 h8
end Mine
end
section
open PySem PySem.W PySem.Spec PySem.Calls PyProof.Rows
namespace Mine
section
variable {w : World} {mean : ExcName → Option Value} {mg mb : Str → Option Value} {n : Nat} {f : Addr} {vals : List Value} {s : Shared}
    {dp un : Nat} {gd : Option (List Code)} {cn : Str} {cs : Scope} {L a : Addr} {ccd : Value} {cl : List (Str × Addr)} {outer : List Env} {A₀ : Around} {base h₀ : Heap} {m : Str → Option Value} {news : List (Addr × Obj)} {Q E : Value → Shared → Prop}
theorem news_ne {h : Heap} {b : Addr} (N : News h₀ L h news) (hb : h.get? b = none) : ∀ p ∈ news, p.1 ≠ b := fun p hp e => by rw [← e, (N p hp).1] at hb; cases hb
theorem use_tup3F {x : UInt64 × UInt64 × UInt64} (D : Does w mean mg mb n f vals s (Tup3F s x))
    (B : Below A₀ base outer h₀) (F : Fr h₀ L s.heap m) (X : (hd.heap_39 w.params).In h₀) (T : Top hd.view_39 (looseW hd.view_39 [Str.ofString "ONE_THIRD", Str.ofString "ONE_SIXTH", Str.ofString "TWO_THIRD"]) mean mg mb h₀)
    (N : News h₀ L s.heap news) (hk : cs.kind = .function) (hd : dp + n < recursionLimit) (hu : un + 8 * n < cLine)
    (h : ∀ b t1 t2 t3 h' tk', Fr h₀ L h' m → News h₀ L h' ((b, { cls := .type "tuple", data := .seq #[.float x.1 t1, .float x.2.1 t2, .float x.2.2 t3] }) :: news) → (∀ p ∈ news, p.1 ≠ b) → Q (.ref b) { s with heap := h', toks := tk' }) :
    wpAny (model PySem.Challenge.rw_mq0234_01.row.prog w) (ktrTop dp un gd cn cs L a ccd cl outer) (call (.ref f) vals) Q E s := by
  refine use D B F X T N hk hd hu ?_
  rintro r h' tk' F' N' k ⟨b, t1, t2, t3, rfl, e, hn⟩
  exact h b t1 t2 t3 h' tk' F' (news_add F N k e hn) (news_ne N hn)
theorem use_tup3I {x : Int × Int × Int} (D : Does w mean mg mb n f vals s (Tup3I s x))
    (B : Below A₀ base outer h₀) (F : Fr h₀ L s.heap m) (X : (hd.heap_39 w.params).In h₀) (T : Top hd.view_39 (looseW hd.view_39 [Str.ofString "ONE_THIRD", Str.ofString "ONE_SIXTH", Str.ofString "TWO_THIRD"]) mean mg mb h₀)
    (N : News h₀ L s.heap news) (hk : cs.kind = .function) (hd : dp + n < recursionLimit) (hu : un + 8 * n < cLine)
    (h : ∀ b t1 t2 t3 h' tk', Fr h₀ L h' m → News h₀ L h' ((b, { cls := .type "tuple", data := .seq #[.int x.1 t1, .int x.2.1 t2, .int x.2.2 t3] }) :: news) → (∀ p ∈ news, p.1 ≠ b) → Q (.ref b) { s with heap := h', toks := tk' }) :
    wpAny (model PySem.Challenge.rw_mq0234_01.row.prog w) (ktrTop dp un gd cn cs L a ccd cl outer) (call (.ref f) vals) Q E s := by
  refine use D B F X T N hk hd hu ?_
  rintro r h' tk' F' N' k ⟨b, t1, t2, t3, rfl, e, hn⟩
  exact h b t1 t2 t3 h' tk' F' (news_add F N k e hn) (news_ne N hn)
theorem use_str {k : Nat} {x : Str} (D : Does w mean mg mb n f vals s (StrOut k x))
    (B : Below A₀ base outer h₀) (F : Fr h₀ L s.heap m) (X : (hd.heap_39 w.params).In h₀) (T : Top hd.view_39 (looseW hd.view_39 [Str.ofString "ONE_THIRD", Str.ofString "ONE_SIXTH", Str.ofString "TWO_THIRD"]) mean mg mb h₀)
    (N : News h₀ L s.heap news) (hk : cs.kind = .function) (hd : dp + n < recursionLimit) (hu : un + 8 * n < cLine)
    (h : ∀ t h' tk', Fr h₀ L h' m → News h₀ L h' news → Short k x → Q (.str x t) { s with heap := h', toks := tk' }) :
    wpAny (model PySem.Challenge.rw_mq0234_01.row.prog w) (ktrTop dp un gd cn cs L a ccd cl outer) (call (.ref f) vals) Q E s := by
  refine use D B F X T N hk hd hu ?_
  rintro r h' tk' F' N' _ ⟨⟨t, rfl⟩, hs⟩
  exact h t h' tk' F' N' hs
end
/-- an int's share, as Python's true division tells it -/
def frac (a d : Int) : UInt64 := Float64.ofFrac (decide (a < 0) != decide (d < 0)) a.natAbs d.natAbs
section
variable {prog : Program} {w : World} {A : Around} {E : Value → Shared → Prop} {s : Shared} {Q : Value → Shared → Prop}
theorem idiv {a d : Int} {t u : Tok} (hd : (d == 0) = false) (hi : Float64.isInf (frac a d) = false) (h : Q (.float (frac a d) s.toks) { s with toks := s.toks + 1 }) : wpAny (model prog w) A (binaryOp .Div (.int a t) (.int d u)) Q E s :=
  AutoIntOps.truediv_2 (by rw [hd]; exact Bool.false_ne_true) (by unfold frac at hi; rw [hi]; exact Bool.false_ne_true) h
theorem imul {k : Int} {x : UInt64} {t u : Tok} (hk : k.natAbs < 2 ^ 20) (h : Q (.float (Float64.mul (Float64.ofInt k) x) s.toks) { s with toks := s.toks + 1 }) : wpAny (model prog w) A (binaryOp .Mult (.int k t) (.float x u)) Q E s :=
  AutoFloatOps.mul_if_1 (Float64.ofInt_fits (Nat.lt_of_lt_of_le hk (Nat.pow_le_pow_right (by decide) (by decide)))) h
theorem round_fin {x : UInt64} {t : Tok} (hA : A.handled = none) (hf : fin x = true) (h : Q (.int (rnd x) s.toks) { s with toks := s.toks + 1 }) : wpAny (model prog w) A (call (.builtin "round") [.float x t]) Q E s :=
  Flt.call_round_float hA (fun k => (fin_nan hf k).elim) (fun k => (fin_inf hf k).elim) fun _ => h
theorem tup_item {h₀ : Heap} {L a : Addr} {m : Str → Option Value} {value slice : Expr} {k : Int} {u : Tok} {j : Nat} {l : List Value} {x : Value} (F : Fr h₀ L s.heap m) (ht : IsTup h₀ a l.toArray) (hlo : -(2 ^ 63) ≤ k) (hhi : k < 2 ^ 63) (hj : seqIndex? k l.length = some j) (hx : l[j]? = some x)
    (hs : subscripted slice false (.ref a) (.int k u) = operate [.ref a, .int k u] (getItem (.ref a) (.int k u))) (h : Q x s) :
    wpAny (model prog w) A (subscriptTail value slice (.ref a) (.int k u)) Q E s := item_tupleT (F.tup ht) hlo hhi hj hx h hs
end
def x6 (c : Int × Int × Int) : UInt64 × UInt64 × UInt64 := (frac c.1 6, frac c.2.1 6, frac c.2.2 6)
def lightF (c : Int × Int × Int) : UInt64 × UInt64 × UInt64 := hlsF (x6 c).1 (x6 c).2.1 (x6 c).2.2
def valueF (c : Int × Int × Int) : UInt64 × UInt64 × UInt64 := hsvF (x6 c).1 (x6 c).2.1 (x6 c).2.2
def byN (k : Int) (x : UInt64) : UInt64 := Float64.mul (Float64.ofInt k) x
def lightI (c : Int × Int × Int) : Int × Int × Int := (rnd (byN 360 (lightF c).1), rnd (byN 12 (lightF c).2.1), rnd (byN 60 (lightF c).2.2))
def valueI (c : Int × Int × Int) : Int × Int × Int := (rnd (byN 360 (valueF c).1), rnd (byN 60 (valueF c).2.1), rnd (byN 6 (valueF c).2.2))
def infNo (x : UInt64 × UInt64 × UInt64) : Bool := !Float64.isInf x.1 && !Float64.isInf x.2.1 && !Float64.isInf x.2.2
def small3 (x : Int × Int × Int) : Bool := decide (0 ≤ x.1) && decide (x.1 < 1000) && decide (0 ≤ x.2.1) && decide (x.2.1 < 1000) && decide (0 ≤ x.2.2) && decide (x.2.2 < 1000)
def lightOk (c : Int × Int × Int) : Bool := infNo (x6 c) && hlsOk (x6 c).1 (x6 c).2.1 (x6 c).2.2 && fin (byN 360 (lightF c).1) && fin (byN 12 (lightF c).2.1) && fin (byN 60 (lightF c).2.2) && small3 (lightI c)
def valueOk (c : Int × Int × Int) : Bool := infNo (x6 c) && hsvOk (x6 c).1 (x6 c).2.1 (x6 c).2.2 && fin (byN 360 (valueF c).1) && fin (byN 60 (valueF c).2.1) && fin (byN 6 (valueF c).2.2) && small3 (valueI c)
theorem infNo_out {c : Int × Int × Int} (h : infNo (x6 c) = true) : Float64.isInf (frac c.1 6) = false ∧ Float64.isInf (frac c.2.1 6) = false ∧ Float64.isInf (frac c.2.2 6) = false := by
  simp only [infNo, x6, Bool.and_eq_true, Bool.not_eq_true'] at h
  exact ⟨h.1.1, h.1.2, h.2⟩
theorem small3_out {x : Int × Int × Int} (h : small3 x = true) : 0 ≤ x.1 ∧ x.1 < 1000 ∧ 0 ≤ x.2.1 ∧ x.2.1 < 1000 ∧ 0 ≤ x.2.2 ∧ x.2.2 < 1000 := by
  simp only [small3, Bool.and_eq_true, decide_eq_true_eq] at h
  exact ⟨h.1.1.1.1.1, h.1.1.1.1.2, h.1.1.1.2, h.1.1.2, h.1.2, h.2⟩
end Mine
end
section
open PySem PySem.W PySem.Spec PySem.Calls PyProof.Rows
namespace Mine

set_option maxHeartbeats 4000000 in
theorem by_light_does {w : World} {mean : ExcName → Option Value} {mg mb : Str → Option Value} {s : Shared} {c : Addr} {x : Int × Int × Int} {way gap : Int} {t1 t2 t3 t4 t5 : Tok} (hc : IsTup s.heap c [Value.int x.1 t1, Value.int x.2.1 t2, Value.int x.2.2 t3].toArray)
    (ok : lightOk x = true) (w0 : 0 ≤ way) (w1 : way < 5) (g0 : 0 ≤ gap) (g1 : gap < 3) :
    Does w mean mg mb 2 80 [.ref c, .int way t4, .int gap t5] s (StrOut 60 (itemT (lightI x).1 (lightI x).2.1 (lightI x).2.2 way gap)) := by
  k_with_none
  k_with "eval ListComp" => (k_dflt (k_here; (with_reducible refine' comp_open (by k_dflt (decide)) (by k_dflt (exact rfl)) (by k_dflt (decide)) ?_ (by k_dflt ((intro _; rfl)))); k_whole))
  k_with "eval Name" => (k_dflt (k_here; (with_reducible show wpAny _ _ (eval (Expr.Name _ _) (compEnv _ _ _)) _ _ _); (first | ((with_reducible refine' nameC_L (by k_dflt (k_asm)) (by k_dflt (exact rfl)) ?_ (by k_dflt (exact rfl)) (by k_dflt (exact rfl)) (by k_dflt (decide))); k_whole) | ((with_reducible refine' nameC_K (by k_dflt (k_asm)) (by k_dflt (k_asm)) (by k_dflt (k_asm)) (by k_dflt (k_is)) ?_ (by k_dflt (exact rfl)) (by k_dflt (exact rfl)) (by k_dflt (exact rfl)) (by k_dflt (decide))); k_whole) | ((with_reducible refine' nameC_B (by k_dflt (k_asm)) (by k_dflt (k_asm)) (by k_dflt (k_asm)) (by k_dflt (k_is)) (by k_dflt (boot_fast)) (by k_dflt (decide)) ?_ (by k_dflt (exact rfl)) (by k_dflt (exact rfl)) (by k_dflt (exact rfl)) (by k_dflt (exact rfl)) (by k_dflt (decide))); k_whole))))
  k_with "binaryOp Div int int" => (k_dflt ((with_reducible refine' idiv (by k_dflt (decide)) (by k_dflt (assumption)) ?_); k_whole))
  k_with "binaryOp Mult int float" => (k_dflt ((with_reducible refine' imul (by k_dflt (decide)) ?_); k_whole))
  k_with "call builtin:round" => (k_dflt ((with_reducible refine' round_fin (by k_dflt (exact rfl)) (by k_dflt (assumption)) ?_); k_whole))
  k_with "subscriptTail" => (k_dflt (k_here; (with_reducible show wpAny _ _ (subscriptTail _ _ (Value.ref _) (Value.int _ _)) _ _ _); (with_reducible refine' tup_item (by k_dflt (k_asm)) (by k_dflt (k_asm)) (by k_dflt (decide)) (by k_dflt (decide)) (by k_dflt (exact rfl)) (by k_dflt (exact rfl)) (by k_dflt (with_unfolding_all rfl)) ?_); k_whole))
  k_with "call ref" => (k_dflt (k_here; (with_reducible show wpAny _ _ (call (Value.ref 33) [Value.float _ _, Value.float _ _, Value.float _ _]) _ _ _); (refine' use_tup3F (rgb_to_hls_does (by k_dflt (assumption))) (by k_dflt (k_asm)) (by k_dflt (k_asm)) (by k_dflt (k_asm)) (by k_dflt (k_asm)) (by k_dflt (k_asm)) (by k_dflt (exact rfl)) (by k_dflt (((try dsimp only [ktrTop]); omega))) (by k_dflt (((try dsimp only [ktrTop]); omega))) ?_); k_whole; intro b9Wq u1Wq u2Wq u3Wq h9Wq tk9Wq F9Wq N9Wq n9Wq; (try k_lt n9Wq); (try dsimp only); (try k_sweep); (try k_fold)))
  k_with "call ref" => (k_dflt (k_here; (with_reducible show wpAny _ _ (call (Value.ref 54) [Value.float _ _, Value.float _ _, Value.float _ _]) _ _ _); (refine' use_tup3F (rgb_to_hsv_does (by k_dflt (assumption))) (by k_dflt (k_asm)) (by k_dflt (k_asm)) (by k_dflt (k_asm)) (by k_dflt (k_asm)) (by k_dflt (k_asm)) (by k_dflt (exact rfl)) (by k_dflt (((try dsimp only [ktrTop]); omega))) (by k_dflt (((try dsimp only [ktrTop]); omega))) ?_); k_whole; intro b9Wq u1Wq u2Wq u3Wq h9Wq tk9Wq F9Wq N9Wq n9Wq; (try k_lt n9Wq); (try dsimp only); (try k_sweep); (try k_fold)))
  k_with "call ref" => (k_dflt (k_here; (with_reducible show wpAny _ _ (call (Value.ref 73) [Value.int _ _, Value.int _ _, Value.int _ _, Value.int _ _, Value.int _ _]) _ _ _); (refine' use_str (item_does (by k_dflt (assumption)) (by k_dflt (assumption)) (by k_dflt (assumption)) (by k_dflt (assumption)) (by k_dflt (assumption)) (by k_dflt (assumption)) (by k_dflt (assumption)) (by k_dflt (assumption)) (by k_dflt (assumption)) (by k_dflt (assumption))) (by k_dflt (k_asm)) (by k_dflt (k_asm)) (by k_dflt (k_asm)) (by k_dflt (k_asm)) (by k_dflt (k_asm)) (by k_dflt (exact rfl)) (by k_dflt (((try dsimp only [ktrTop]); omega))) (by k_dflt (((try dsimp only [ktrTop]); omega))) ?_); k_whole; intro t9Wq h9Wq tk9Wq F9Wq N9Wq s9Wq; (try dsimp only); (try k_sweep); (try k_fold)))
  simp only [lightOk, Bool.and_eq_true] at ok
  obtain ⟨⟨⟨⟨⟨o1, o2⟩, o3⟩, o4⟩, o5⟩, o6⟩ := ok
  obtain ⟨j1, j2, j3⟩ := infNo_out o1
  obtain ⟨q1, q2, q3, q4, q5, q6⟩ := small3_out o6
  clear o1 o6
  k_dflt (refine' enter (binds := [(Str.ofString "colour", .ref c), (Str.ofString "way", .int way t4), (Str.ofString "gap", .int gap t5)]) ?k6 ?k7 ?k9 ?kB ?_ ?c2 ?c3 ?c4 ?c5; (case k6 => k_is); (case k7 => k_is); (case k9 => exact BindsTo.of_eq rfl); (case c5 => decide); (case kB => exact locs rfl); (case c2 => exact rfl); (case c3 => exact rfl); (case c4 => exact rfl); k_whole; intro dp' un' gd' cn' cs' L0' a' ccd' cl' outer' base' L' h' B' F' N' X' T' hd' hu'; (try dsimp only); (try k_fold))
  k_steps
  exact ends_short (by assumption) rfl (by assumption) (by decide)

set_option maxHeartbeats 4000000 in
theorem by_value_does {w : World} {mean : ExcName → Option Value} {mg mb : Str → Option Value} {s : Shared} {c : Addr} {x : Int × Int × Int} {way gap : Int} {t1 t2 t3 t4 t5 : Tok} (hc : IsTup s.heap c [Value.int x.1 t1, Value.int x.2.1 t2, Value.int x.2.2 t3].toArray)
    (ok : valueOk x = true) (w0 : 0 ≤ way) (w1 : way < 5) (g0 : 0 ≤ gap) (g1 : gap < 3) :
    Does w mean mg mb 2 87 [.ref c, .int way t4, .int gap t5] s (StrOut 60 (itemT (valueI x).1 (valueI x).2.1 (valueI x).2.2 way gap)) := by
  k_with_none
  k_with "eval ListComp" => (k_dflt (k_here; (with_reducible refine' comp_open (by k_dflt (decide)) (by k_dflt (exact rfl)) (by k_dflt (decide)) ?_ (by k_dflt ((intro _; rfl)))); k_whole))
  k_with "eval Name" => (k_dflt (k_here; (with_reducible show wpAny _ _ (eval (Expr.Name _ _) (compEnv _ _ _)) _ _ _); (first | ((with_reducible refine' nameC_L (by k_dflt (k_asm)) (by k_dflt (exact rfl)) ?_ (by k_dflt (exact rfl)) (by k_dflt (exact rfl)) (by k_dflt (decide))); k_whole) | ((with_reducible refine' nameC_K (by k_dflt (k_asm)) (by k_dflt (k_asm)) (by k_dflt (k_asm)) (by k_dflt (k_is)) ?_ (by k_dflt (exact rfl)) (by k_dflt (exact rfl)) (by k_dflt (exact rfl)) (by k_dflt (decide))); k_whole) | ((with_reducible refine' nameC_B (by k_dflt (k_asm)) (by k_dflt (k_asm)) (by k_dflt (k_asm)) (by k_dflt (k_is)) (by k_dflt (boot_fast)) (by k_dflt (decide)) ?_ (by k_dflt (exact rfl)) (by k_dflt (exact rfl)) (by k_dflt (exact rfl)) (by k_dflt (exact rfl)) (by k_dflt (decide))); k_whole))))
  k_with "binaryOp Div int int" => (k_dflt ((with_reducible refine' idiv (by k_dflt (decide)) (by k_dflt (assumption)) ?_); k_whole))
  k_with "binaryOp Mult int float" => (k_dflt ((with_reducible refine' imul (by k_dflt (decide)) ?_); k_whole))
  k_with "call builtin:round" => (k_dflt ((with_reducible refine' round_fin (by k_dflt (exact rfl)) (by k_dflt (assumption)) ?_); k_whole))
  k_with "subscriptTail" => (k_dflt (k_here; (with_reducible show wpAny _ _ (subscriptTail _ _ (Value.ref _) (Value.int _ _)) _ _ _); (with_reducible refine' tup_item (by k_dflt (k_asm)) (by k_dflt (k_asm)) (by k_dflt (decide)) (by k_dflt (decide)) (by k_dflt (exact rfl)) (by k_dflt (exact rfl)) (by k_dflt (with_unfolding_all rfl)) ?_); k_whole))
  k_with "call ref" => (k_dflt (k_here; (with_reducible show wpAny _ _ (call (Value.ref 33) [Value.float _ _, Value.float _ _, Value.float _ _]) _ _ _); (refine' use_tup3F (rgb_to_hls_does (by k_dflt (assumption))) (by k_dflt (k_asm)) (by k_dflt (k_asm)) (by k_dflt (k_asm)) (by k_dflt (k_asm)) (by k_dflt (k_asm)) (by k_dflt (exact rfl)) (by k_dflt (((try dsimp only [ktrTop]); omega))) (by k_dflt (((try dsimp only [ktrTop]); omega))) ?_); k_whole; intro b9Wq u1Wq u2Wq u3Wq h9Wq tk9Wq F9Wq N9Wq n9Wq; (try k_lt n9Wq); (try dsimp only); (try k_sweep); (try k_fold)))
  k_with "call ref" => (k_dflt (k_here; (with_reducible show wpAny _ _ (call (Value.ref 54) [Value.float _ _, Value.float _ _, Value.float _ _]) _ _ _); (refine' use_tup3F (rgb_to_hsv_does (by k_dflt (assumption))) (by k_dflt (k_asm)) (by k_dflt (k_asm)) (by k_dflt (k_asm)) (by k_dflt (k_asm)) (by k_dflt (k_asm)) (by k_dflt (exact rfl)) (by k_dflt (((try dsimp only [ktrTop]); omega))) (by k_dflt (((try dsimp only [ktrTop]); omega))) ?_); k_whole; intro b9Wq u1Wq u2Wq u3Wq h9Wq tk9Wq F9Wq N9Wq n9Wq; (try k_lt n9Wq); (try dsimp only); (try k_sweep); (try k_fold)))
  k_with "call ref" => (k_dflt (k_here; (with_reducible show wpAny _ _ (call (Value.ref 73) [Value.int _ _, Value.int _ _, Value.int _ _, Value.int _ _, Value.int _ _]) _ _ _); (refine' use_str (item_does (by k_dflt (assumption)) (by k_dflt (assumption)) (by k_dflt (assumption)) (by k_dflt (assumption)) (by k_dflt (assumption)) (by k_dflt (assumption)) (by k_dflt (assumption)) (by k_dflt (assumption)) (by k_dflt (assumption)) (by k_dflt (assumption))) (by k_dflt (k_asm)) (by k_dflt (k_asm)) (by k_dflt (k_asm)) (by k_dflt (k_asm)) (by k_dflt (k_asm)) (by k_dflt (exact rfl)) (by k_dflt (((try dsimp only [ktrTop]); omega))) (by k_dflt (((try dsimp only [ktrTop]); omega))) ?_); k_whole; intro t9Wq h9Wq tk9Wq F9Wq N9Wq s9Wq; (try dsimp only); (try k_sweep); (try k_fold)))
  simp only [valueOk, Bool.and_eq_true] at ok
  obtain ⟨⟨⟨⟨⟨o1, o2⟩, o3⟩, o4⟩, o5⟩, o6⟩ := ok
  obtain ⟨j1, j2, j3⟩ := infNo_out o1
  obtain ⟨q1, q2, q3, q4, q5, q6⟩ := small3_out o6
  clear o1 o6
  k_dflt (refine' enter (binds := [(Str.ofString "colour", .ref c), (Str.ofString "way", .int way t4), (Str.ofString "gap", .int gap t5)]) ?k6 ?k7 ?k9 ?kB ?_ ?c2 ?c3 ?c4 ?c5; (case k6 => k_is); (case k7 => k_is); (case k9 => exact BindsTo.of_eq rfl); (case c5 => decide); (case kB => exact locs rfl); (case c2 => exact rfl); (case c3 => exact rfl); (case c4 => exact rfl); k_whole; intro dp' un' gd' cn' cs' L0' a' ccd' cl' outer' base' L' h' B' F' N' X' T' hd' hu'; (try dsimp only); (try k_fold))
  k_steps
  exact ends_short (by assumption) rfl (by assumption) (by decide)
end Mine
end
section
open PySem PySem.W PySem.Spec PySem.Calls PyProof.Rows
namespace Mine
theorem fr_canon {h₀ h : Heap} {L : Addr} {m : Str → Option Value} (F : Fr h₀ L h m) (ps : List (Str × Value)) (hp : ∀ p ∈ ps, m p.1 = some p.2) : Fr h₀ L h (kstB m ps) := by
  have e : kstB m ps = m := funext fun z => kstB_eq hp fun _ => rfl
  rw [e]; exact F
def lo3 (c : Int × Int × Int) : Int := if c.2.1 < c.1 then (if c.2.2 < c.2.1 then c.2.2 else c.2.1) else (if c.2.2 < c.1 then c.2.2 else c.1)
def hi3 (c : Int × Int × Int) : Int := if c.2.1 > c.1 then (if c.2.2 > c.2.1 then c.2.2 else c.2.1) else (if c.2.2 > c.1 then c.2.2 else c.1)
section
variable {prog : Program} {w : World} {A : Around} {E : Value → Shared → Prop} {s : Shared} {Q : Value → Shared → Prop}
theorem one_old {o₁ : Obj} {h' : Heap} (hk : ∀ b o, b ∉ [s.heap.objs.size] → (s.heap.push o₁).get? b = some o → h'.get? b = some o) : ∀ d o, s.heap.get? d = some o → h'.get? d = some o := fun d o e => by
  refine hk d o (fun hm => ?_) (Heap.get?_push_of_some _ e)
  rcases List.mem_cons.mp hm with e1 | hm
  · have := Heap.lt_size e; rw [e1] at this; exact Nat.lt_irrefl _ this
  · cases hm
theorem two_fp {d l : Addr} {o : Obj} (hl : l < s.heap.objs.size) (hd : d ∈ [s.heap.objs.size, l]) : d < (s.heap.push o).objs.size := by
  rw [Heap.size_push]
  rcases List.mem_cons.mp hd with rfl | hd
  · exact Nat.lt_succ_self _
  · rw [List.mem_singleton.mp hd]; exact Nat.lt_succ_of_lt hl
theorem min_tup {l : Addr} {c : Int × Int × Int} {t u x : Tok} (hh : A.handled = none) (ht : IsTup s.heap l [Value.int c.1 t, Value.int c.2.1 u, Value.int c.2.2 x].toArray)
    (h : ∀ h' tk t', (∀ d o, s.heap.get? d = some o → h'.get? d = some o) → Q (.int (lo3 c) t') { s with heap := h', toks := tk }) : wpAny (model prog w) A (call (.builtin "min") [.ref l]) Q E s := by
  obtain ⟨ol, hol, _⟩ := id ht
  have hlt := Heap.lt_size hol
  have hT : IsTup s.heap l (intItems #[(c.1, t), (c.2.1, u), (c.2.2, x)]) := by
    have e : intItems #[(c.1, t), (c.2.1, u), (c.2.2, x)] = [Value.int c.1 t, Value.int c.2.1 u, Value.int c.2.2 x].toArray := by simp [intItems]
    rw [e]; exact ht
  refine call_min_walk (wpAny_pyIter_tuple hT ?_)
  refine ⟨_, [_, l], [_], _, _, _, _, rfl, Walks.tuple (A := A.in1) hh _ l (Nat.ne_of_lt hlt) (intItems #[(c.1, t), (c.2.1, u), (c.2.2, x)]),
    ⟨⟨_, Heap.get?_push_size _ rfl, rfl, rfl⟩, hT.keeps fun _ _ e => Heap.get?_push_of_some _ e⟩, fun d hd => two_fp hlt hd, by simp [intItems], CmpOf.ints_lt (numAt #[(c.1, t), (c.2.1, u), (c.2.2, x)]) (fun _ _ => intItems_at), fun v h' tk hP hk => ?_⟩
  obtain ⟨t', rfl⟩ := intItems_at hP
  have e : numAt #[(c.1, t), (c.2.1, u), (c.2.2, x)] (argBest (fun i j => decide (numAt #[(c.1, t), (c.2.1, u), (c.2.2, x)] i < numAt #[(c.1, t), (c.2.1, u), (c.2.2, x)] j)) ((intItems #[(c.1, t), (c.2.1, u), (c.2.2, x)]).size - 1)) = lo3 c := by
    have : (intItems #[(c.1, t), (c.2.1, u), (c.2.2, x)]).size - 1 = 2 := by simp [intItems]
    rw [this]
    by_cases h1 : c.2.1 < c.1 <;> by_cases h2 : c.2.2 < c.2.1 <;> by_cases h3 : c.2.2 < c.1 <;> simp [argBest, numAt, lo3, h1, h2, h3]
  rw [e]
  exact h h' tk t' (one_old hk)
theorem max_tup {l : Addr} {c : Int × Int × Int} {t u x : Tok} (hh : A.handled = none) (ht : IsTup s.heap l [Value.int c.1 t, Value.int c.2.1 u, Value.int c.2.2 x].toArray)
    (h : ∀ h' tk t', (∀ d o, s.heap.get? d = some o → h'.get? d = some o) → Q (.int (hi3 c) t') { s with heap := h', toks := tk }) : wpAny (model prog w) A (call (.builtin "max") [.ref l]) Q E s := by
  obtain ⟨ol, hol, _⟩ := id ht
  have hlt := Heap.lt_size hol
  have hT : IsTup s.heap l (intItems #[(c.1, t), (c.2.1, u), (c.2.2, x)]) := by
    have e : intItems #[(c.1, t), (c.2.1, u), (c.2.2, x)] = [Value.int c.1 t, Value.int c.2.1 u, Value.int c.2.2 x].toArray := by simp [intItems]
    rw [e]; exact ht
  refine call_max_walk (wpAny_pyIter_tuple hT ?_)
  refine ⟨_, [_, l], [_], _, _, _, _, rfl, Walks.tuple (A := A.in1) hh _ l (Nat.ne_of_lt hlt) (intItems #[(c.1, t), (c.2.1, u), (c.2.2, x)]),
    ⟨⟨_, Heap.get?_push_size _ rfl, rfl, rfl⟩, hT.keeps fun _ _ e => Heap.get?_push_of_some _ e⟩, fun d hd => two_fp hlt hd, by simp [intItems], CmpOf.ints_gt (numAt #[(c.1, t), (c.2.1, u), (c.2.2, x)]) (fun _ _ => intItems_at), fun v h' tk hP hk => ?_⟩
  obtain ⟨t', rfl⟩ := intItems_at hP
  have e : numAt #[(c.1, t), (c.2.1, u), (c.2.2, x)] (argBest (fun i j => decide (numAt #[(c.1, t), (c.2.1, u), (c.2.2, x)] i > numAt #[(c.1, t), (c.2.1, u), (c.2.2, x)] j)) ((intItems #[(c.1, t), (c.2.1, u), (c.2.2, x)]).size - 1)) = hi3 c := by
    have : (intItems #[(c.1, t), (c.2.1, u), (c.2.2, x)]).size - 1 = 2 := by simp [intItems]
    rw [this]
    by_cases h1 : c.2.1 > c.1 <;> by_cases h2 : c.2.2 > c.2.1 <;> by_cases h3 : c.2.2 > c.1 <;> simp [argBest, numAt, hi3, h1, h2, h3]
  rw [e]
  exact h h' tk t' (one_old hk)
theorem min_tupN {h₀ : Heap} {L : Addr} {m : Str → Option Value} {news : List (Addr × Obj)} {l : Addr} {c : Int × Int × Int} {t u x : Tok} (hh : A.handled = none) (F : Fr h₀ L s.heap m) (N : News h₀ L s.heap news) (ht : IsTup h₀ l [Value.int c.1 t, Value.int c.2.1 u, Value.int c.2.2 x].toArray)
    (h : ∀ h' tk t', Fr h₀ L h' m → News h₀ L h' news → Q (.int (lo3 c) t') { s with heap := h', toks := tk }) : wpAny (model prog w) A (call (.builtin "min") [.ref l]) Q E s :=
  min_tup hh (F.tup ht) fun h' tk t' k => h h' tk t' (fr_grow F k) (news_grow N k)
theorem max_tupN {h₀ : Heap} {L : Addr} {m : Str → Option Value} {news : List (Addr × Obj)} {l : Addr} {c : Int × Int × Int} {t u x : Tok} (hh : A.handled = none) (F : Fr h₀ L s.heap m) (N : News h₀ L s.heap news) (ht : IsTup h₀ l [Value.int c.1 t, Value.int c.2.1 u, Value.int c.2.2 x].toArray)
    (h : ∀ h' tk t', Fr h₀ L h' m → News h₀ L h' news → Q (.int (hi3 c) t') { s with heap := h', toks := tk }) : wpAny (model prog w) A (call (.builtin "max") [.ref l]) Q E s :=
  max_tup hh (F.tup ht) fun h' tk t' k => h h' tk t' (fr_grow F k) (news_grow N k)
end
end Mine
end
section
open PySem PySem.W PySem.Spec PySem.Calls PyProof.Rows
namespace Mine
section
variable {prog : Program} {w : World} {A : Around} {s : Shared} {env : Env} {h₀ : Heap} {E : Value → Shared → Prop} {Q : Flow → Shared → Prop} {body : List Stmt} {m : Str → Option Value} {news : List (Addr × Obj)}

theorem fresh_size (F : Fr h₀ env.locals s.heap m) : h₀.get? s.heap.objs.size = none := next_is_new F
theorem loop_range {x : Str} {px : Pos} {r : Addr} {b : Int} {t₀ u₀ v₀ : Tok} {n : Nat} (J : Nat → (Str → Option Value) → List (Addr × Obj) → Prop)
    (hh : A.handled = none) (hr : IsRange s.heap r 0 b 1 t₀ u₀ v₀) (hsmall : Builtin.Range.small 0 b 1 = true) (hsz : Builtin.Range.rangeSize 0 b 1 = (n : Int)) (F : Fr h₀ env.locals s.heap m) (N : News h₀ env.locals s.heap news) (hE : PassesOwn (model prog w) A env E) (h0 : J 0 m news)
    (turn : ∀ (i : Nat) (t : Tok) (m₁ : Str → Option Value) (nx : List (Addr × Obj)) (h : Heap) (tk : Nat) (own : List (Addr × Obj)), i < n → J i m₁ nx → OwnOff own (nx.map (·.1)) → Fr h₀ env.locals h m₁ → News h₀ env.locals h (nx ++ own) →
      wpAny (model prog w) A (assign (.Name x px) env (.int (i : Int) t)) (fun _ s₂ => wpAny (model prog w) A (execs body env) (InvPostG h₀ env.locals (J (i + 1)) own s Q) E s₂) E { s with heap := h, toks := tk })
    (done : ∀ h' tk m' nx, Fr h₀ env.locals h' m' → News h₀ env.locals h' nx → J n m' nx → Q .next { s with heap := h', toks := tk }) :
    wpAny (model prog w) A (pyIter (.ref r)) (fun it s₂ => LoopT prog w A env (.Name x px) body Q E it s₂) E s := by
  refine wpAny_pyIter_range hr hsmall ?_
  refine loop_run (h₀ := h₀) (iter_range hh s.heap.objs.size 0 1 n) ?_ ?_ ?_ (by show IsRangeIter _ _ _ _ _; rw [hsz]; simpa using Heap.get?_push_size _ rfl) (F.push _) (fun p hp => ⟨Heap.get?_push_of_some _ (N p hp).1, (N p hp).2⟩) J h0 ?_ done hE
  · exact fun hm => absurd F.ns.lt ((List.mem_singleton.mp hm) ▸ Nat.lt_irrefl _)
  · intro b hb; rw [List.mem_singleton.mp hb]; exact next_is_new F
  · exact fun p hp hI => absurd (Heap.lt_size (N p hp).1) ((List.mem_singleton.mp hI) ▸ Nat.lt_irrefl _)
  · rintro i v m₁ nx h tk own hi ⟨t, rfl⟩ hJ ho F₁ N₁
    have e : (0 : Int) + (i : Int) * 1 = (i : Int) := by omega
    rw [e]
    exact turn i t m₁ nx h tk own hi hJ ho F₁ N₁

theorem loop_str {x : Str} {px : Pos} {u : Str} {t : Tok} (J : Nat → (Str → Option Value) → List (Addr × Obj) → Prop)
    (hh : A.handled = none) (F : Fr h₀ env.locals s.heap m) (N : News h₀ env.locals s.heap news) (hE : PassesOwn (model prog w) A env E) (h0 : J 0 m news)
    (turn : ∀ (i c : Nat) (t : Tok) (m₁ : Str → Option Value) (nx : List (Addr × Obj)) (h : Heap) (tk : Nat) (own : List (Addr × Obj)), u.cps[i]? = some c → J i m₁ nx → OwnOff own (nx.map (·.1)) → Fr h₀ env.locals h m₁ → News h₀ env.locals h (nx ++ own) →
      wpAny (model prog w) A (assign (.Name x px) env (.str ⟨#[c]⟩ t)) (fun _ s₂ => wpAny (model prog w) A (execs body env) (InvPostG h₀ env.locals (J (i + 1)) own s Q) E s₂) E { s with heap := h, toks := tk })
    (done : ∀ h' tk m' nx, Fr h₀ env.locals h' m' → News h₀ env.locals h' nx → J u.cps.size m' nx → Q .next { s with heap := h', toks := tk }) :
    wpAny (model prog w) A (pyIter (.str u t)) (fun it s₂ => LoopT prog w A env (.Name x px) body Q E it s₂) E s := by
  refine iter_str (x := x) (px := px) fun o St W hst => ?_
  refine loop_run (h₀ := h₀) (W A hh) ?_ ?_ ?_ hst (F.push _) (fun p hp => ⟨Heap.get?_push_of_some _ (N p hp).1, (N p hp).2⟩) J h0 ?_ done hE
  · exact fun hm => absurd F.ns.lt ((List.mem_singleton.mp hm) ▸ Nat.lt_irrefl _)
  · intro b hb; rw [List.mem_singleton.mp hb]; exact next_is_new F
  · exact fun p hp hI => absurd (Heap.lt_size (N p hp).1) ((List.mem_singleton.mp hI) ▸ Nat.lt_irrefl _)
  · rintro i v m₁ nx h tk own hi ⟨c, t', hc, rfl⟩ hJ ho F₁ N₁
    exact turn i c t' m₁ nx h tk own hc hJ ho F₁ N₁

/-- a loop over a list that the frame does not turn: it is not on the ledger that the loop carries -/
theorem loop_list {target : Expr} {l : Addr} {items : Array Value} (J : Nat → (Str → Option Value) → List (Addr × Obj) → Prop)
    (htg : (∃ x px, target = .Name x px) ∨ ∃ elts k px, target = .Tuple elts k px)
    (hh : A.handled = none) (hl : s.heap.IsList l items) (F : Fr h₀ env.locals s.heap m) (N : News h₀ env.locals s.heap news) (hnl : ∀ p ∈ news, p.1 ≠ l) (hE : PassesOwn (model prog w) A env E) (h0 : J 0 m news)
    (turn : ∀ (i : Nat) (v : Value) (m₁ : Str → Option Value) (nx : List (Addr × Obj)) (h : Heap) (tk : Nat) (own : List (Addr × Obj)), items[i]? = some v → J i m₁ nx → OwnOff own (nx.map (·.1)) → Fr h₀ env.locals h m₁ → News h₀ env.locals h (nx ++ own) →
      wpAny (model prog w) A (assign target env v) (fun _ s₂ => wpAny (model prog w) A (execs body env) (InvPostG h₀ env.locals (J (i + 1)) own s Q) E s₂) E { s with heap := h, toks := tk })
    (done : ∀ h' tk m' nx, Fr h₀ env.locals h' m' → News h₀ env.locals h' nx → J items.size m' nx → Q .next { s with heap := h', toks := tk }) :
    wpAny (model prog w) A (pyIter (.ref l)) (fun it s₂ => LoopT prog w A env target body Q E it s₂) E s := by
  obtain ⟨o, ho, hc, r⟩ := id hl
  have hne : l ≠ s.heap.objs.size := Nat.ne_of_lt (Heap.lt_size ho)
  have hlL : env.locals ≠ l := fun q => by
    obtain ⟨oL, es, ep, hL, hd, _⟩ := F.ns
    obtain ⟨n, hn⟩ := r
    rw [q, ho] at hL; cases hL
    rw [hn] at hd; cases hd
  have W : Iter prog w A target s.heap.objs.size [s.heap.objs.size, l] [s.heap.objs.size] items.size (fun i v _ => items[i]? = some v) (fun i h => h.IsListIter s.heap.objs.size l i ∧ h.IsList l items) := by
    rcases htg with ⟨x, px, rfl⟩ | ⟨elts, k, px, rfl⟩
    · exact iter_list hh _ l hne items
    · exact iter_listT hh _ l hne items
  refine wpAny_pyIter_list hl ?_
  refine loop_run (h₀ := h₀) W ?_ ?_ ?_ ⟨⟨_, Heap.get?_push_size _ rfl, rfl, rfl⟩, ⟨o, Heap.get?_push_of_some _ ho, hc, r⟩⟩ (F.push _) (fun p hp => ⟨Heap.get?_push_of_some _ (N p hp).1, (N p hp).2⟩) J h0 ?_ done hE
  · intro hm
    rcases List.mem_cons.mp hm with e | hm
    · exact absurd F.ns.lt (e ▸ Nat.lt_irrefl _)
    · exact hlL (List.mem_singleton.mp hm)
  · intro b hb; rw [List.mem_singleton.mp hb]; exact next_is_new F
  · intro p hp hI
    rcases List.mem_cons.mp hI with e | hm
    · exact absurd (Heap.lt_size (N p hp).1) (e ▸ Nat.lt_irrefl _)
    · exact hnl p hp (List.mem_singleton.mp hm)
  · intro i v m₁ nx h tk own _ hv hJ ho F₁ N₁
    exact turn i v m₁ nx h tk own hv hJ ho F₁ N₁
end
end Mine
end
section
open PySem PySem.W PySem.Spec PySem.Calls PyProof.Rows PySem.SeqAt
namespace Mine
abbrev tri (c : Int × Int × Int) (t1 t2 t3 : Tok) : Array Value := [Value.int c.1 t1, Value.int c.2.1 t2, Value.int c.2.2 t3].toArray
section
variable {prog : Program} {w : World} {A : Around} {E : Value → Shared → Prop} {s : Shared} {Q : Value → Shared → Prop}
def eqAt3 (c d : Int × Int × Int) (j : Nat) : Bool := match j with | 0 => c.1 == d.1 | 1 => c.2.1 == d.2.1 | _ => c.2.2 == d.2.2
theorem eqAt3_all (c d : Int × Int × Int) : ((List.range (min 3 3)).all (eqAt3 c d) && (3 : Nat) == 3) = decide (c = d) := by
  obtain ⟨c1, c2, c3⟩ := c
  obtain ⟨d1, d2, d3⟩ := d
  have : List.range (min 3 3) = [0, 1, 2] := by decide
  rw [this]
  rw [Bool.eq_iff_iff]
  simp [eqAt3, List.all]
theorem rc3 {a b : Addr} {c d : Int × Int × Int} {t1 t2 t3 u1 u2 u3 : Tok} (ha : IsTup s.heap a (tri c t1 t2 t3)) (hb : IsTup s.heap b (tri d u1 u2 u3)) (hu : A.units < cLine) : RcAt A s (.ref a) (.ref b) (decide (c = d)) := by
  have := RcAt.tuples (A := A) (s := s) (e := eqAt3 c d) ha hb hu (fun j h1 h2 => by
    have hj : j < 3 := h1
    have : j = 0 ∨ j = 1 ∨ j = 2 := by omega
    rcases this with rfl | rfl | rfl
    · exact EqAt.int_int _ _ _ _
    · exact EqAt.int_int _ _ _ _
    · exact EqAt.int_int _ _ _ _)
  have e := eqAt3_all c d
  exact e ▸ this
theorem eq3 {h₀ : Heap} {L a b : Addr} {m : Str → Option Value} {c d : Int × Int × Int} {t1 t2 t3 u1 u2 u3 : Tok} (F : Fr h₀ L s.heap m) (ha : IsTup s.heap a (tri c t1 t2 t3)) (hb : IsTup h₀ b (tri d u1 u2 u3)) (hu : A.units < cLine)
    (h : Q (.bool (decide (c = d))) s) : wpAny (model prog w) A (compareOp .Eq (.ref a) (.ref b)) Q E s := rc3 ha (F.tup hb) hu prog w E Q h

def six6 (lo hi up dn k : Int) : Int × Int × Int :=
  if k = 0 then (hi, up, lo) else if k = 1 then (dn, hi, lo) else if k = 2 then (lo, hi, up) else if k = 3 then (lo, dn, hi) else if k = 4 then (up, lo, hi) else (hi, lo, dn)
theorem pick6 {value slice : Expr} {lo hi up dn k : Int} {u : Tok} {D a0 a1 a2 a3 a4 a5 : Addr} {v0 v1 v2 v3 v4 v5 v6 v7 v8 v9 w0 w1 w2 w3 w4 w5 w6 w7 : Tok} (h0 : 0 ≤ k) (h1 : k < 6) (ht : IsTup s.heap D [Value.ref a0, .ref a1, .ref a2, .ref a3, .ref a4, .ref a5].toArray)
    (i0 : IsTup s.heap a0 (tri (hi, up, lo) v0 v1 v2)) (i1 : IsTup s.heap a1 (tri (dn, hi, lo) v3 v4 v5)) (i2 : IsTup s.heap a2 (tri (lo, hi, up) v6 v7 v8)) (i3 : IsTup s.heap a3 (tri (lo, dn, hi) v9 w0 w1)) (i4 : IsTup s.heap a4 (tri (up, lo, hi) w2 w3 w4)) (i5 : IsTup s.heap a5 (tri (hi, lo, dn) w5 w6 w7))
    (hs : subscripted slice false (.ref D) (.int k u) = operate [.ref D, .int k u] (getItem (.ref D) (.int k u)))
    (h : ∀ a t1 t2 t3, IsTup s.heap a (tri (six6 lo hi up dn k) t1 t2 t3) → Q (.ref a) s) : wpAny (model prog w) A (subscriptTail value slice (.ref D) (.int k u)) Q E s := by
  have : k = 0 ∨ k = 1 ∨ k = 2 ∨ k = 3 ∨ k = 4 ∨ k = 5 := by omega
  rcases this with rfl | rfl | rfl | rfl | rfl | rfl
  · exact item_tupleT ht (by decide) (by decide) (j := 0) rfl rfl (h _ _ _ _ i0) hs
  · exact item_tupleT ht (by decide) (by decide) (j := 1) rfl rfl (h _ _ _ _ i1) hs
  · exact item_tupleT ht (by decide) (by decide) (j := 2) rfl rfl (h _ _ _ _ i2) hs
  · exact item_tupleT ht (by decide) (by decide) (j := 3) rfl rfl (h _ _ _ _ i3) hs
  · exact item_tupleT ht (by decide) (by decide) (j := 4) rfl rfl (h _ _ _ _ i4) hs
  · exact item_tupleT ht (by decide) (by decide) (j := 5) rfl rfl (h _ _ _ _ i5) hs
end
def stepAt (c : Int × Int × Int) (j : Nat) : Int × Int × Int := six6 (lo3 c) (hi3 c) (lo3 c + (j : Int).fmod (hi3 c - lo3 c)) (hi3 c - (j : Int).fmod (hi3 c - lo3 c)) ((j : Int).fdiv (hi3 c - lo3 c))
def hueGo (c : Int × Int × Int) : List Nat → Int
  | [] => 0
  | j :: r => if stepAt c j = c then (60 * (j : Int)).fdiv (hi3 c - lo3 c) else hueGo c r
def hueI (c : Int × Int × Int) : Int := hueGo c (List.range (6 * (hi3 c - lo3 c)).toNat)
theorem hueGo_skip {c : Int × Int × Int} : ∀ {l r : List Nat}, (∀ j ∈ l, stepAt c j ≠ c) → hueGo c (l ++ r) = hueGo c r
  | [], _, _ => rfl
  | j :: l, r, h => by
    show (if stepAt c j = c then _ else hueGo c (l ++ r)) = _
    rw [if_neg (h j (.head _))]
    exact hueGo_skip fun i hi => h i (.tail _ hi)
theorem hueI_at {c : Int × Int × Int} {i : Nat} (hi : i < (6 * (hi3 c - lo3 c)).toNat) (h : ∀ j < i, stepAt c j ≠ c) (e : stepAt c i = c) : hueI c = (60 * (i : Int)).fdiv (hi3 c - lo3 c) := by
  have hs : List.range (6 * (hi3 c - lo3 c)).toNat = List.range i ++ i :: (List.range ((6 * (hi3 c - lo3 c)).toNat - (i + 1))).map (i + 1 + ·) := by
    have e : (6 * (hi3 c - lo3 c)).toNat = (i + 1) + ((6 * (hi3 c - lo3 c)).toNat - (i + 1)) := by omega
    conv => lhs; rw [e]
    rw [List.range_add, List.range_succ]
    simp
  unfold hueI
  rw [hs, hueGo_skip fun j hj => h j (List.mem_range.mp hj)]
  exact if_pos e
theorem hueI_none {c : Int × Int × Int} (h : ∀ j < (6 * (hi3 c - lo3 c)).toNat, stepAt c j ≠ c) : hueI c = 0 := by
  unfold hueI
  have := hueGo_skip (r := []) (fun j hj => h j (List.mem_range.mp hj) : ∀ j ∈ List.range (6 * (hi3 c - lo3 c)).toNat, stepAt c j ≠ c)
  rw [List.append_nil] at this
  exact this
theorem sixth_lo {i : Nat} {d : Int} (h : (i : Int) < 6 * d) : 0 ≤ (i : Int).fdiv d := Int.fdiv_nonneg (by omega) (by omega)
theorem sixth_hi {i : Nat} {d : Int} (h : (i : Int) < 6 * d) : (i : Int).fdiv d < 6 := by
  have hd : 0 < d := by omega
  have e := Int.mul_fdiv_add_fmod (i : Int) d
  have r := Int.fmod_nonneg_of_pos (i : Int) hd
  rcases Int.lt_or_le ((i : Int).fdiv d) 6 with h' | h'
  · exact h'
  · exfalso
    have : d * 6 ≤ d * (i : Int).fdiv d := Int.mul_le_mul_of_nonneg_left h' (by omega)
    omega
def HasI (m : Str → Option Value) (x : Str) (n : Int) : Prop := ∃ t, m x = some (.int n t)
end Mine
end
section
open PySem PySem.W PySem.Spec PySem.Calls PyProof.Rows
namespace Mine

set_option maxHeartbeats 4000000 in
theorem hue_does {w : World} {mean : ExcName → Option Value} {mg mb : Str → Option Value} {s : Shared} {c : Addr} {x : Int × Int × Int} {t1 t2 t3 : Tok} (hc : IsTup s.heap c (tri x t1 t2 t3))
    (b0 : 0 ≤ lo3 x) (b1 : lo3 x ≤ hi3 x) (b2 : hi3 x < 7) :
    Does w mean mg mb 1 106 [.ref c] s (fun _ v => ∃ t, v = .int (hueI x) t) := by
  k_with_none
  k_with "binaryOp Div int int" => (k_dflt ((with_reducible refine' idiv (by k_dflt (decide)) (by k_dflt (assumption)) ?_); k_whole))
  k_with "binaryOp Mult int float" => (k_dflt ((with_reducible refine' imul (by k_dflt (decide)) ?_); k_whole))
  k_with "call builtin:round" => (k_dflt ((with_reducible refine' round_fin (by k_dflt (exact rfl)) (by k_dflt (assumption)) ?_); k_whole))
  k_with "subscriptTail" => (k_dflt (k_here; (with_reducible show wpAny _ _ (subscriptTail _ _ (Value.ref _) (Value.int _ _)) _ _ _); (with_reducible refine' tup_item (by k_dflt (k_asm)) (by k_dflt (k_asm)) (by k_dflt (decide)) (by k_dflt (decide)) (by k_dflt (exact rfl)) (by k_dflt (exact rfl)) (by k_dflt (with_unfolding_all rfl)) ?_); k_whole))
  k_with "call builtin:min" => (k_dflt ((with_reducible show wpAny _ _ (call (Value.builtin _) [Value.ref _]) _ _ _); (with_reducible refine' min_tupN (by k_dflt (exact rfl)) (by k_dflt (k_asm)) (by k_dflt (k_asm)) (by k_dflt (k_asm)) ?_); k_whole; intro h9Wq tk9Wq t9Wq F9Wq N9Wq; (try k_sweep)))
  k_with "call builtin:max" => (k_dflt ((with_reducible show wpAny _ _ (call (Value.builtin _) [Value.ref _]) _ _ _); (with_reducible refine' max_tupN (by k_dflt (exact rfl)) (by k_dflt (k_asm)) (by k_dflt (k_asm)) (by k_dflt (k_asm)) ?_); k_whole; intro h9Wq tk9Wq t9Wq F9Wq N9Wq; (try k_sweep)))
  k_with "exec For Name Name cons nil" => (k_dflt (k_here; (with_reducible refine' for_open ?_ (by k_dflt ((intro _; rfl)))); k_whole))
  k_with "exec For Name Call cons nil" => (k_dflt (k_here; (with_reducible refine' for_open ?_ (by k_dflt ((intro _; rfl)))); k_whole))
  k_with "exec For Name Subscript cons nil" => (k_dflt (k_here; (with_reducible refine' for_open ?_ (by k_dflt ((intro _; rfl)))); k_whole))
  k_with "exec For Tuple Name cons nil" => (k_dflt (k_here; (with_reducible refine' for_open ?_ (by k_dflt ((intro _; rfl)))); k_whole))
  k_with "exec For Tuple Call cons nil" => (k_dflt (k_here; (with_reducible refine' for_open ?_ (by k_dflt ((intro _; rfl)))); k_whole))
  k_with "subscriptTail" => (k_dflt (k_here; (with_reducible show wpAny _ _ (subscriptTail _ _ (Value.ref _) (Value.int (Int.fdiv _ _) _)) _ _ _); (with_reducible refine' pick6 (by k_dflt (assumption)) (by k_dflt (assumption)) (by k_dflt (exact News.isTup (by k_asm) (by k_mem))) (by k_dflt (exact News.isTup (by k_asm) (by k_mem))) (by k_dflt (exact News.isTup (by k_asm) (by k_mem))) (by k_dflt (exact News.isTup (by k_asm) (by k_mem))) (by k_dflt (exact News.isTup (by k_asm) (by k_mem))) (by k_dflt (exact News.isTup (by k_asm) (by k_mem))) (by k_dflt (exact News.isTup (by k_asm) (by k_mem))) (by k_dflt (with_unfolding_all rfl)) ?_); k_whole; intro _ _ _ _ _))
  k_with "compareOp Eq ref ref" => (k_dflt (k_here; (with_reducible refine' eq3 (by k_dflt (k_asm)) (by k_dflt (assumption)) (by k_dflt (assumption)) (by k_dflt (((try dsimp only [ktrTop]); (try simp only [Around.deeper_units]); omega))) ?_); k_whole))
  k_with "ite" => (k_dflt ((with_reducible show ite (_ = true) _ _); (with_reducible refine ite_split ?_ ?_) <;> intro _))
  k_with "ite" => (k_dflt (k_closed; (first | (with_reducible refine ite_neg (by k_dflt (decide)) ?_) | (with_reducible refine ite_pos (by k_dflt (decide)) ?_))))
  k_dflt (refine' enter (binds := [(Str.ofString "colour", .ref c)]) ?k6 ?k7 ?k9 ?kB ?_ ?c2 ?c3 ?c4 ?c5; (case k6 => k_is); (case k7 => k_is); (case k9 => exact BindsTo.of_eq rfl); (case c5 => decide); (case kB => exact locs rfl); (case c2 => exact rfl); (case c3 => exact rfl); (case c4 => exact rfl); k_whole; intro dp' un' gd' cn' cs' L0' a' ccd' cl' outer' base' L' h' B' F' N' X' T' hd' hu'; (try dsimp only); (try k_fold))
  k_steps
  (with_reducible rename Fr _ _ _ _ => F8); (with_reducible rename News _ _ _ _ => N8); (with_reducible rename IsRange _ _ _ _ _ _ _ _ => R8)
  refine loop_range (n := (6 * (hi3 x - lo3 x)).toNat) (h₀ := s.heap) (news := []) (fun i m nx => nx = [] ∧ m (Str.ofString "colour") = some (.ref c) ∧ HasI m (Str.ofString "low") (lo3 x) ∧ HasI m (Str.ofString "high") (hi3 x) ∧ HasI m (Str.ofString "size") (hi3 x - lo3 x) ∧ ∀ j < i, stepAt x j ≠ x) rfl R8 (small_one (by decide) (by decide) (by omega) (by omega)) (by rw [rangeSize_nat]; congr 2; omega) F8 News.nil PassesOwn.never ?_ ?_ ?_
  · exact ⟨rfl, rfl, ⟨_, rfl⟩, ⟨_, rfl⟩, ⟨_, rfl⟩, fun j hj => absurd hj (Nat.not_lt_zero j)⟩
  · rintro i t m1 nx h tk own hi ⟨rfl, hm0, ⟨u1, hm1⟩, ⟨u2, hm2⟩, ⟨u3, hm3⟩, hno⟩ ho F1 N1
    replace F1 := fr_canon F1 [(Str.ofString "colour", Value.ref c), (Str.ofString "low", .int (lo3 x) u1), (Str.ofString "high", .int (hi3 x) u2), (Str.ofString "size", .int (hi3 x - lo3 x) u3)] (by
      refine List.forall_mem_cons.mpr ⟨hm0, List.forall_mem_cons.mpr ⟨hm1, List.forall_mem_cons.mpr ⟨hm2, List.forall_mem_cons.mpr ⟨hm3, List.forall_mem_nil _⟩⟩⟩⟩)
    dsimp only [kstB, List.nil_append] at F1 N1
    have hs : (i : Int) < 6 * (hi3 x - lo3 x) := by omega
    have q0 := sixth_lo hs
    have q1 := sixth_hi hs
    clear F8 N8 R8 hm0 hm1 hm2 hm3
    k_steps
    · exact ends_int (by assumption) (hueI_at hi hno (of_decide_eq_true (by assumption)))
    · refine InvEndG.intro (by assumption) (by assumption) ⟨rfl, rfl, ⟨_, rfl⟩, ⟨_, rfl⟩, ⟨_, rfl⟩, ?_⟩ ho (fun _ h => nomatch h) ?_
      · intro j hj
        rcases Nat.lt_or_ge j i with h9 | h9
        · exact hno j h9
        · obtain rfl : j = i := by omega
          exact of_decide_eq_false (by assumption)
      · intro p hp
        repeat (first | exact hp | refine List.mem_cons_of_mem _ ?_)
  · rintro h tk m1 nx F1 N1 ⟨rfl, hm0, ⟨u1, hm1⟩, ⟨u2, hm2⟩, ⟨u3, hm3⟩, hno⟩
    clear F8 N8 R8
    k_steps
    exact ends_int F1 (hueI_none hno)
end Mine
end
section
open PySem PySem.W PySem.Spec PySem.Calls PyProof.Rows
namespace Mine
structure HS where
  res : List Str
  part : Str
  esc : Bool
  quo : Bool
def hstep (s : HS) (c : Nat) : HS :=
  if s.esc = true then { s with part := s.part ++ ⟨#[c]⟩, esc := false }
  else if s.quo = true then
    (if c = 92 then { s with esc := true } else if c = 34 then { s with part := s.part ++ ⟨#[c]⟩, quo := false } else { s with part := s.part ++ ⟨#[c]⟩ })
  else if c = 44 then { s with res := s.res ++ [s.part], part := Str.ofString "" }
  else if c = 34 then { s with part := s.part ++ ⟨#[c]⟩, quo := true }
  else { s with part := s.part ++ ⟨#[c]⟩ }
def hini : HS := ⟨[], Str.ofString "", false, false⟩
def hrun (l : List Nat) : HS := l.foldl hstep hini
theorem hrun_snoc (l : List Nat) (c : Nat) : hrun (l ++ [c]) = hstep (hrun l) c := by simp [hrun]
def hparts (s : HS) : List Str := if (s.part.length == 0) = true then s.res else s.res ++ [s.part]
def httpL (x : Str) : List Str := (hparts (hrun x.cps.toList)).map Txt.strip
theorem hs1 {S : HS} {c : Nat} (a : S.esc = true) : hstep S c = { S with part := S.part ++ ⟨#[c]⟩, esc := false } := by simp only [hstep, a, if_true]
theorem hs2 {S : HS} {c : Nat} (a : S.esc = false) (b : S.quo = true) (d : decide (c = 92) = true) : hstep S c = { S with esc := true } := by
  have d' := of_decide_eq_true d
  simp only [hstep, a, b, d', if_true, if_false, Bool.false_eq_true]
theorem hs3 {S : HS} {c : Nat} (a : S.esc = false) (b : S.quo = true) (d : decide (c = 92) = false) (e : decide (c = 34) = true) : hstep S c = { S with part := S.part ++ ⟨#[c]⟩, quo := false } := by
  have d' := of_decide_eq_false d
  have e' := of_decide_eq_true e
  simp only [hstep, a, b, if_neg d', if_pos e', if_true, if_false, Bool.false_eq_true]
theorem hs4 {S : HS} {c : Nat} (a : S.esc = false) (b : S.quo = true) (d : decide (c = 92) = false) (e : decide (c = 34) = false) : hstep S c = { S with part := S.part ++ ⟨#[c]⟩ } := by
  have d' := of_decide_eq_false d
  have e' := of_decide_eq_false e
  simp only [hstep, a, b, if_neg d', if_neg e', if_true, if_false, Bool.false_eq_true]
theorem hs5 {S : HS} {c : Nat} (a : S.esc = false) (b : S.quo = false) (d : decide (c = 44) = true) : hstep S c = { S with res := S.res ++ [S.part], part := Str.ofString "" } := by
  have d' := of_decide_eq_true d
  simp only [hstep, a, b, if_pos d', if_false, Bool.false_eq_true]
theorem hs6 {S : HS} {c : Nat} (a : S.esc = false) (b : S.quo = false) (d : decide (c = 44) = false) (e : decide (c = 34) = true) : hstep S c = { S with part := S.part ++ ⟨#[c]⟩, quo := true } := by
  have d' := of_decide_eq_false d
  have e' := of_decide_eq_true e
  simp only [hstep, a, b, if_neg d', if_pos e', if_false, Bool.false_eq_true]
theorem hs7 {S : HS} {c : Nat} (a : S.esc = false) (b : S.quo = false) (d : decide (c = 44) = false) (e : decide (c = 34) = false) : hstep S c = { S with part := S.part ++ ⟨#[c]⟩ } := by
  have d' := of_decide_eq_false d
  have e' := of_decide_eq_false e
  simp only [hstep, a, b, if_neg d', if_neg e', if_false, Bool.false_eq_true]
theorem strs_len : ∀ {vs : List Value} {ys : List Str}, StrsAre vs ys → vs.length = ys.length
  | _, _, .nil => rfl
  | _, _, .cons _ _ h => by rw [List.length_cons, List.length_cons, strs_len h]
theorem strs_get : ∀ {vs : List Value} {ys : List Str} {i : Nat} {v : Value}, StrsAre vs ys → vs[i]? = some v → ∃ y t, ys[i]? = some y ∧ v = .str y t
  | _, _, 0, _, .cons y t _, e => ⟨y, t, rfl, (Option.some.inj e).symm⟩
  | _, _, i + 1, _, .cons _ _ h, e => strs_get (i := i) h e
  | _, _, _, _, .nil, e => by simp at e
/-- no part is longer than what was read, and there are no more parts than signs -/
def HB (s : HS) (n : Nat) : Prop := s.part.length ≤ n ∧ s.res.length ≤ n ∧ ∀ y ∈ s.res, y.length ≤ n
theorem HB.snoc {s : HS} {n : Nat} (h : HB s n) (c : Nat) : HB (hstep s c) (n + 1) := by
  obtain ⟨h1, h2, h3⟩ := h
  have e : (s.part ++ (⟨#[c]⟩ : Str)).length = s.part.length + 1 := by rw [Str.length_append]; rfl
  have h3' : ∀ y ∈ s.res, y.length ≤ n + 1 := fun y hy => Nat.le_succ_of_le (h3 y hy)
  unfold hstep
  split
  · exact ⟨by show (s.part ++ (⟨#[c]⟩ : Str)).length ≤ _; omega, by show s.res.length ≤ _; omega, h3'⟩
  · split
    · split
      · exact ⟨by show s.part.length ≤ _; omega, by show s.res.length ≤ _; omega, h3'⟩
      · split
        · exact ⟨by show (s.part ++ (⟨#[c]⟩ : Str)).length ≤ _; omega, by show s.res.length ≤ _; omega, h3'⟩
        · exact ⟨by show (s.part ++ (⟨#[c]⟩ : Str)).length ≤ _; omega, by show s.res.length ≤ _; omega, h3'⟩
    · split
      · refine ⟨by show (0 : Nat) ≤ _; omega, by show (s.res ++ [s.part]).length ≤ _; simp; omega, fun y hy => ?_⟩
        rcases List.mem_append.mp hy with hy | hy
        · exact h3' y hy
        · rw [List.mem_singleton.mp hy]; omega
      · split
        · exact ⟨by show (s.part ++ (⟨#[c]⟩ : Str)).length ≤ _; omega, by show s.res.length ≤ _; omega, h3'⟩
        · exact ⟨by show (s.part ++ (⟨#[c]⟩ : Str)).length ≤ _; omega, by show s.res.length ≤ _; omega, h3'⟩
theorem hb_take (l : List Nat) : ∀ n, HB (hrun (l.take n)) n := by
  intro n
  induction n with
  | zero => exact ⟨Nat.le_refl _, Nat.le_refl _, fun _ h => nomatch h⟩
  | succ n ih =>
    cases e : l[n]? with
    | some c =>
      rw [List.take_add_one, e]
      show HB (hrun (l.take n ++ [c])) (n + 1)
      rw [hrun_snoc]; exact ih.snoc c
    | none =>
      rw [List.take_add_one, e]
      show HB (hrun (l.take n ++ [])) (n + 1)
      rw [List.append_nil]
      exact ⟨Nat.le_succ_of_le ih.1, Nat.le_succ_of_le ih.2.1, fun y hy => Nat.le_succ_of_le (ih.2.2 y hy)⟩
theorem inv_one {h₀ h' : Heap} {L l : Addr} {o : Obj} {J : (Str → Option Value) → List (Addr × Obj) → Prop} {m' : Str → Option Value} {own : List (Addr × Obj)} {s₁ : Shared} {tk : Nat} (F : Fr h₀ L h' m') (N : News h₀ L h' ((l, o) :: own)) (ho : OwnOff own [l])
    (hj : J m' [(l, o)]) : InvEndG h₀ L J own s₁ { s₁ with heap := h', toks := tk } :=
  InvEndG.intro F N hj ho (fun p hp => by rw [List.mem_singleton.mp hp]; exact .head _) (fun p hp => .tail _ hp)
section
variable {prog : Program} {w : World} {A : Around} {E : Value → Shared → Prop} {s : Shared} {Q : Value → Shared → Prop}
theorem iadd_short {a b : Nat} {x y : Str} {t u : Tok} (hx : Short a x) (hy : Short b y) (hab : a + b ≤ 16777216) (h : ∀ t' k, Q (.str (x ++ y) t') { s with toks := k }) :
    wpAny (model prog w) A (inplaceOp .Add (.str x t) (.str y u)) Q E s := PyProof.Rows.iadd_str h (by unfold Short at *; rw [sizeLine_eq]; omega)
theorem truthy_short {x : Str} {t : Tok} {Q : Bool → Shared → Prop} (hx : Short 4000 x) (h : Q (!(x.length == 0)) { s with toks := s.toks + 1 + 1 }) : wpAny (model prog w) A (truthy (.str x t)) Q E s := by
  refine PySem.P.truthy_str ?_ ?_
  · unfold Short at hx; omega
  · have e : ((x.length : Int) != 0) = !(x.length == 0) := by
      rw [Bool.eq_iff_iff]; simp
    rw [e]; exact h
theorem strip_short {x : Str} {t : Tok} (hx : Short 4000 x) (h : ∀ t' k, Q (.str (Txt.strip x) t') { s with toks := k }) : wpAny (model prog w) A (call (.builtin "str.strip") [.str x t]) Q E s :=
  SC.strip h (by unfold Short at hx; rw [sizeLine_eq]; omega)
theorem eq_char {c : Nat} {y : Str} {t u : Tok} (d : Nat) (hy : y = ⟨#[d]⟩) (h : Q (.bool (decide (c = d))) s) : wpAny (model prog w) A (compareOp .Eq (.str ⟨#[c]⟩ t) (.str y u)) Q E s := by
  subst hy
  refine PyProof.Rows.eq_str ?_
  have : ((⟨#[c]⟩ : Str) == ⟨#[d]⟩) = decide (c = d) := by
    rw [Bool.eq_iff_iff]
    simp
  rw [this]; exact h
end
end Mine
end
section
open PySem PySem.W PySem.Spec PySem.Calls PyProof.Rows
namespace Mine

/-- a new list of texts -/
def StrsOut (s : Shared) (ys : List Str) (h' : Heap) (v : Value) : Prop := ∃ a vs n, v = .ref a ∧ h'.get? a = some (listOf vs n) ∧ StrsAre vs.toList ys ∧ s.heap.get? a = none
def HJ (S : HS) (m : Str → Option Value) (nx : List (Addr × Obj)) : Prop :=
  ∃ l vs n tp, nx = [(l, listOf vs n)] ∧ StrsAre vs.toList S.res ∧ m (Str.ofString "res") = some (.ref l) ∧ m (Str.ofString "part") = some (.str S.part tp) ∧ m (Str.ofString "escape") = some (.bool S.esc) ∧ m (Str.ofString "quote") = some (.bool S.quo)
theorem strs_push {vs : Array Value} {ys : List Str} {y : Str} {t : Tok} (h : StrsAre vs.toList ys) : StrsAre (vs.push (.str y t)).toList (ys ++ [y]) := by
  rw [Array.toList_push]; exact KStt.strs_snoc h
set_option maxHeartbeats 4000000 in
theorem http_does {w : World} {mean : ExcName → Option Value} {mg mb : Str → Option Value} {s : Shared} {x : Str} {t1 : Tok} (hx : Short 4000 x) :
    Does w mean mg mb 1 26 [.str x t1] s (StrsOut s (httpL x)) := by
  k_with_none
  k_with "eval ListComp" => (k_dflt (k_here; (with_reducible refine' comp_open (by k_dflt (decide)) (by k_dflt (exact rfl)) (by k_dflt (decide)) ?_ (by k_dflt ((intro _; rfl)))); k_whole))
  k_with "eval Name" => (k_dflt (k_here; (with_reducible show wpAny _ _ (eval (Expr.Name _ _) (compEnv _ _ _)) _ _ _); (first | ((with_reducible refine' nameC_L (by k_dflt (k_asm)) (by k_dflt (exact rfl)) ?_ (by k_dflt (exact rfl)) (by k_dflt (exact rfl)) (by k_dflt (decide))); k_whole) | ((with_reducible refine' nameC_K (by k_dflt (k_asm)) (by k_dflt (k_asm)) (by k_dflt (k_asm)) (by k_dflt (k_is)) ?_ (by k_dflt (exact rfl)) (by k_dflt (exact rfl)) (by k_dflt (exact rfl)) (by k_dflt (decide))); k_whole) | ((with_reducible refine' nameC_B (by k_dflt (k_asm)) (by k_dflt (k_asm)) (by k_dflt (k_asm)) (by k_dflt (k_is)) (by k_dflt (boot_fast)) (by k_dflt (decide)) ?_ (by k_dflt (exact rfl)) (by k_dflt (exact rfl)) (by k_dflt (exact rfl)) (by k_dflt (exact rfl)) (by k_dflt (decide))); k_whole))))
  k_with "exec For Name Name cons nil" => (k_dflt (k_here; (with_reducible refine' for_open ?_ (by k_dflt ((intro _; rfl)))); k_whole))
  k_with "exec For Name Call cons nil" => (k_dflt (k_here; (with_reducible refine' for_open ?_ (by k_dflt ((intro _; rfl)))); k_whole))
  k_with "exec For Name Subscript cons nil" => (k_dflt (k_here; (with_reducible refine' for_open ?_ (by k_dflt ((intro _; rfl)))); k_whole))
  k_with "exec For Tuple Name cons nil" => (k_dflt (k_here; (with_reducible refine' for_open ?_ (by k_dflt ((intro _; rfl)))); k_whole))
  k_with "exec For Tuple Call cons nil" => (k_dflt (k_here; (with_reducible refine' for_open ?_ (by k_dflt ((intro _; rfl)))); k_whole))
  k_with "ite" => (k_dflt ((with_reducible show ite (_ = true) _ _); (with_reducible refine ite_split ?_ ?_) <;> intro _))
  k_with "ite" => (k_dflt (k_closed; (first | (with_reducible refine ite_neg (by k_dflt (decide)) ?_) | (with_reducible refine ite_pos (by k_dflt (decide)) ?_))))
  k_with "compareOp Eq str str" => (k_dflt (first | (with_reducible refine eq_char 92 (by k_dflt (decide)) ?_) | (with_reducible refine eq_char 34 (by k_dflt (decide)) ?_) | (with_reducible refine eq_char 44 (by k_dflt (decide)) ?_)))
  k_with "inplaceOp Add str str" => (k_dflt ((with_reducible refine' iadd_short (by k_dflt (with_reducible assumption)) (by k_dflt (exact short_sign _)) (by k_dflt (decide)) ?_); k_whole; intro _ _))
  k_with "truthy str" => (k_dflt ((with_reducible refine' truthy_short (by k_dflt (with_reducible assumption)) ?_); k_whole))
  k_with "call builtin:str.strip" => (k_dflt ((with_reducible refine' strip_short (by k_dflt (with_reducible assumption)) ?_); k_whole; intro _ _))
  k_dflt (refine' enter (binds := [(Str.ofString "s", .str x t1)]) ?k6 ?k7 ?k9 ?kB ?_ ?c2 ?c3 ?c4 ?c5; (case k6 => k_is); (case k7 => k_is); (case k9 => exact BindsTo.of_eq rfl); (case c5 => decide); (case kB => exact locs rfl); (case c2 => exact rfl); (case c3 => exact rfl); (case c4 => exact rfl); k_whole; intro dp' un' gd' cn' cs' L0' a' ccd' cl' outer' base' L' h' B' F' N' X' T' hd' hu'; (try dsimp only); (try k_fold))
  k_steps
  (with_reducible rename Fr _ _ _ _ => F8); (with_reducible rename News _ _ _ _ => N8)
  refine loop_str (h₀ := s.heap) (fun i m nx => HJ (hrun (x.cps.toList.take i)) m nx) rfl F8 N8 PassesOwn.never ?_ ?_ ?_
  · exact ⟨_, _, _, _, rfl, .nil, rfl, rfl, rfl, rfl⟩
  · intro i c t m1 nx h tk own hc hJ ho F1 N1
    have hi : i < x.length := (Array.getElem?_eq_some_iff.mp hc).1
    have e1 : hrun (x.cps.toList.take (i + 1)) = hstep (hrun (x.cps.toList.take i)) c := by
      rw [List.take_add_one, Array.getElem?_toList, hc]
      exact hrun_snoc _ c
    have hb := hb_take x.cps.toList i
    rw [e1]
    generalize hrun (x.cps.toList.take i) = S at hJ hb ⊢
    obtain ⟨l, vs, n, tp, rfl, hs, q1, q2, q3, q4⟩ := hJ
    replace F1 := fr_canon F1 [(Str.ofString "res", Value.ref l), (Str.ofString "part", .str S.part tp), (Str.ofString "escape", .bool S.esc), (Str.ofString "quote", .bool S.quo)] (by
      refine List.forall_mem_cons.mpr ⟨q1, List.forall_mem_cons.mpr ⟨q2, List.forall_mem_cons.mpr ⟨q3, List.forall_mem_cons.mpr ⟨q4, List.forall_mem_nil _⟩⟩⟩⟩)
    dsimp only [kstB, List.cons_append, List.nil_append] at F1 N1
    have hp : Short 4000 S.part := Nat.le_trans hb.1 (Nat.le_trans (Nat.le_of_lt hi) hx)
    have hz : vs.size ≤ sizeLine := by
      have h1 := strs_len hs
      have h2 := hb.2.1
      have h3 : x.length ≤ 4000 := hx
      rw [Array.length_toList] at h1
      rw [sizeLine_eq]; omega
    clear F8 N8 q1 q2 q3 q4 e1
    k_steps
    all_goals refine inv_one (by assumption) (by assumption) ho ?_
    all_goals first
      | (rw [hs1 (by assumption)]; exact ⟨l, _, _, _, rfl, hs, rfl, rfl, rfl, rfl⟩)
      | (rw [hs2 (by assumption) (by assumption) (by assumption)]; exact ⟨l, _, _, _, rfl, hs, rfl, rfl, rfl, rfl⟩)
      | (rw [hs3 (by assumption) (by assumption) (by assumption) (by assumption)]; exact ⟨l, _, _, _, rfl, hs, rfl, rfl, rfl, rfl⟩)
      | (rw [hs4 (by assumption) (by assumption) (by assumption) (by assumption)]; exact ⟨l, _, _, _, rfl, hs, rfl, rfl, rfl, rfl⟩)
      | (rw [hs5 (by assumption) (by assumption) (by assumption)]; exact ⟨l, _, _, _, rfl, strs_push hs, rfl, rfl, rfl, rfl⟩)
      | (rw [hs6 (by assumption) (by assumption) (by assumption) (by assumption)]; exact ⟨l, _, _, _, rfl, hs, rfl, rfl, rfl, rfl⟩)
      | (rw [hs7 (by assumption) (by assumption) (by assumption) (by assumption)]; exact ⟨l, _, _, _, rfl, hs, rfl, rfl, rfl, rfl⟩)
  · intro h tk m1 nx F1 N1 hJ
    have e1 : x.cps.toList.take x.cps.size = x.cps.toList := List.take_of_length_le (by simp)
    have hb := hb_take x.cps.toList x.cps.size
    rw [e1] at hJ hb
    obtain ⟨S, hS⟩ : ∃ S, S = hrun x.cps.toList := ⟨_, rfl⟩
    rw [← hS] at hJ hb
    obtain ⟨l, vs, n, tp, rfl, hs, q1, q2, q3, q4⟩ := hJ
    replace F1 := fr_canon F1 [(Str.ofString "res", Value.ref l), (Str.ofString "part", .str S.part tp)] (by
      refine List.forall_mem_cons.mpr ⟨q1, List.forall_mem_cons.mpr ⟨q2, List.forall_mem_nil _⟩⟩)
    dsimp only [kstB] at F1
    have hz : vs.size ≤ 4000 := by
      have h1 := strs_len hs
      have h2 := hb.2.1
      have h3 : x.length ≤ 4000 := hx
      have h4 : x.cps.size = x.length := rfl
      rw [Array.length_toList] at h1
      omega
    have hz' : vs.size ≤ sizeLine := by rw [sizeLine_eq]; omega
    have hp : Short 4000 S.part := Nat.le_trans hb.1 hx
    have hq : ∀ y ∈ S.res, Short 4000 y := fun y hy => Nat.le_trans (hb.2.2 y hy) hx
    have e3 : httpL x = (hparts S).map Txt.strip := by rw [hS]; rfl
    dsimp only [envOf] at F1 N1
    clear F8 N8 q1 q2 q3 q4 e1 hS
    k_steps
    · (with_reducible rename Fr _ _ _ _ => F8); (with_reducible rename News _ _ _ _ => N8)
      have e4 : hparts S = S.res ++ [S.part] := by
        have h9 : (!(S.part.length == 0)) = true := by assumption
        unfold hparts
        rw [if_neg (by simpa using h9)]
      rw [e4] at e3
      have hs' := strs_push (y := S.part) (t := tp) hs
      have hq' : ∀ y ∈ S.res ++ [S.part], Short 4000 y := fun y hy => by
        rcases List.mem_append.mp hy with hy | hy
        · exact hq y hy
        · rw [List.mem_singleton.mp hy]; exact hp
      have hz9 : (vs.push (.str S.part tp)).size ≤ 4001 := by rw [Array.size_push]; omega
      have X9 := X'.keeps F8.keep
      have T9 := T'.keeps F8.keep
      refine comp_list (fun i v _ => ∃ y t, (S.res ++ [S.part])[i]? = some y ∧ v = .str (Txt.strip y) t) rfl (News.isList N8 (.head _)) (Nat.le_trans hz9 (by rw [sizeLine_eq]; decide)) (by decide) rfl rfl (fun _ _ _ _ h _ => h) ?_ ?_
      · intro C9 i9 v9 m9 h9 tk9 own9 E9 hi9 F9 N9
        obtain ⟨y9, t9, hy9, rfl⟩ := strs_get hs' (by rw [Array.getElem?_toList]; exact hi9)
        have hs9 : Short 4000 y9 := hq' y9 (List.mem_of_getElem? hy9)
        dsimp only at F9 N9
        clear F8 N8 X' T' hi9
        k_steps
        exact ⟨_, _, _, _, rfl, F9, N9, fun _ h => h, y9, _, hy9, rfl⟩
      · intro D9 h9 tk9 ys9 hD9 hk9 hl9 hn9 hR9
        obtain ⟨n9, eD9⟩ := hl9
        have hA9 : StrsAre ys9.toList ((S.res ++ [S.part]).map Txt.strip) := strs_of (by rw [Array.length_toList, hn9, ← strs_len hs', Array.length_toList]) fun i y hy => by
          obtain ⟨y', t', e5, e6⟩ := hR9 i y (by rw [← Array.getElem?_toList]; exact hy)
          exact ⟨y', t', e5, e6⟩
        have hD0 : s.heap.get? D9 = none := by
          cases q : s.heap.get? D9 with
          | none => rfl
          | some o => exact nomatch (hD9.symm.trans (F8.keep _ _ q))
        exact ends_val (fr_grow F8 hk9) ⟨D9, ys9, n9, rfl, eD9, by rw [e3]; exact hA9, hD0⟩
    · have e4 : hparts S = S.res := by
        have h9 : (!(S.part.length == 0)) = false := by assumption
        unfold hparts
        rw [if_pos (by simpa using h9)]
      rw [e4] at e3
      have X9 := X'.keeps F1.keep
      have T9 := T'.keeps F1.keep
      refine comp_list (fun i v _ => ∃ y t, (S.res)[i]? = some y ∧ v = .str (Txt.strip y) t) rfl (News.isList N1 (.head _)) (Nat.le_trans hz (by rw [sizeLine_eq]; decide)) (by decide) rfl rfl (fun _ _ _ _ h _ => h) ?_ ?_
      · intro C9 i9 v9 m9 h9 tk9 own9 E9 hi9 F9 N9
        obtain ⟨y9, t9, hy9, rfl⟩ := strs_get hs (by rw [Array.getElem?_toList]; exact hi9)
        have hs9 : Short 4000 y9 := hq y9 (List.mem_of_getElem? hy9)
        dsimp only at F9 N9
        clear F1 N1 X' T' hi9
        k_steps
        exact ⟨_, _, _, _, rfl, F9, N9, fun _ h => h, y9, _, hy9, rfl⟩
      · intro D9 h9 tk9 ys9 hD9 hk9 hl9 hn9 hR9
        obtain ⟨n9, eD9⟩ := hl9
        have hA9 : StrsAre ys9.toList ((S.res).map Txt.strip) := strs_of (by rw [Array.length_toList, hn9, ← strs_len hs, Array.length_toList]) fun i y hy => by
          obtain ⟨y', t', e5, e6⟩ := hR9 i y (by rw [← Array.getElem?_toList]; exact hy)
          exact ⟨y', t', e5, e6⟩
        have hD0 : s.heap.get? D9 = none := by
          cases q : s.heap.get? D9 with
          | none => rfl
          | some o => exact nomatch (hD9.symm.trans (F1.keep _ _ q))
        exact ends_val (fr_grow F1 hk9) ⟨D9, ys9, n9, rfl, eD9, by rw [e3]; exact hA9, hD0⟩
end Mine
end
section
open PySem PySem.W PySem.Spec PySem.Calls PyProof.Rows
namespace Mine
def isq (v : Str) : Bool := Txt.item v 0 == Str.ofString "\"" && Txt.item v (-1) == Str.ofString "\""
def unq (v : Str) : Str := if isq v = true then Txt.slice v (some 1) (some (-1)) else v
theorem unq_yes {v : Str} (a : (Txt.item v 0 == Str.ofString "\"") = true) (b : (Txt.item v (-1) == Str.ofString "\"") = true) : unq v = Txt.slice v (some 1) (some (-1)) := by simp only [unq, isq, a, b, Bool.and_self, if_true]
theorem unq_no1 {v : Str} (a : (Txt.item v 0 == Str.ofString "\"") = false) : unq v = v := by simp only [unq, isq, a, Bool.false_and, if_false, Bool.false_eq_true]
theorem unq_no2 {v : Str} (a : (Txt.item v (-1) == Str.ofString "\"") = false) : unq v = v := by simp only [unq, isq, a, Bool.and_false, if_false, Bool.false_eq_true]
/-- an item's key and value -/
def Cut (y k v : Str) : Prop := Txt.splitMax y (Str.ofString "=") 1 = [k, v]
def putP (ps : List (Str × Str)) (k v : Str) : List (Str × Str) := if ps.any (fun p => decide (p.1 = k)) then ps.map (fun p => if p.1 = k then (p.1, v) else p) else ps ++ [(k, v)]
def encP (ps : List (Str × Str)) : List (PyData × PyData) := ps.map fun p => (.str p.1, .str p.2)
theorem encP_put (ps : List (Str × Str)) (k v : Str) : PyProof.V.putD (.str k) (.str v) (encP ps) = encP (putP ps k v) := by
  have e : ∀ p : Str × Str, PySem.Spec.same (PyData.str p.1) (PyData.str k) = decide (p.1 = k) := fun p => PyProof.V.same_str p.1 k
  unfold PyProof.V.putD putP encP
  rw [List.any_map]
  have e2 : (fun p : PyData × PyData => PySem.Spec.same p.1 (PyData.str k)) ∘ (fun p : Str × Str => (PyData.str p.1, PyData.str p.2)) = fun p => decide (p.1 = k) := funext fun p => e p
  rw [e2]
  split
  · rw [List.map_map, List.map_map]
    refine List.map_congr_left fun p _ => ?_
    show (if PySem.Spec.same (PyData.str p.1) (PyData.str k) = true then _ else _) = _
    rw [e p]
    by_cases h : p.1 = k
    · simp [h]
    · simp [h]
  · simp
theorem putP_len (ps : List (Str × Str)) (k v : Str) : (putP ps k v).length ≤ ps.length + 1 := by
  unfold putP
  split
  · simp
  · simp
section
variable {prog : Program} {w : World} {A : Around} {E : Value → Shared → Prop} {s : Shared} {Q : Value → Shared → Prop} {h₀ : Heap} {L : Addr} {m : Str → Option Value} {news : List (Addr × Obj)}
theorem two_vals {l : List (Str × Tok)} {a b : Str} (h : l.map (·.1) = [a, b]) : ∃ t1 t2, l = [(a, t1), (b, t2)] := by
  rcases l with _ | ⟨⟨x, t1⟩, _ | ⟨⟨y, t2⟩, _ | ⟨z, l⟩⟩⟩ <;> simp at h
  obtain ⟨rfl, rfl⟩ := h
  exact ⟨t1, t2, rfl⟩
theorem split_eq {x k v : Str} {t u z : Tok} (F : Fr h₀ L s.heap m) (N : News h₀ L s.heap news) (hc : Cut x k v) (hx : Short 4000 x)
    (h : ∀ D t1 t2 h' tk, Fr h₀ L h' m → News h₀ L h' ((D, { cls := .type "list", data := .seq [Value.str k t1, Value.str v t2].toArray }) :: news) → (∀ p ∈ news, p.1 < D) → Q (.ref D) { s with heap := h', toks := tk }) :
    wpAny (model prog w) A (call (.builtin "str.split") [.str x t, .str (Str.ofString "=") u, .int 1 z]) Q E s := by
  refine splitN2A F N (by decide) (by decide) (fun l h' tk e _ _ _ F' N' => ?_) (by unfold Short at hx; rw [sizeLine_eq]; omega)
  obtain ⟨t1, t2, rfl⟩ := two_vals (e.trans hc)
  exact h _ t1 t2 h' tk F' N' fun p hp => Heap.lt_size (N p hp).1
theorem str_item {value slice : Expr} {x : Str} {i : Int} {t u : Tok} (hx : 0 < x.length) (hS : Short 4000 x) (hi : i = 0 ∨ i = -1) (h : ∀ t' k, Q (.str (Txt.item x i) t') { s with toks := k })
    (hs : subscripted slice false (.str x t) (.int i u) = operate [.str x t, .int i u] (getItem (.str x t) (.int i u))) (ht : ∀ r, letTemporaryGo value (.str x t) r = pure ()) :
    wpAny (model prog w) A (subscriptTail value slice (.str x t) (.int i u)) Q E s := by
  have hl : x.length ≤ 4000 := hS
  refine item_str (by rcases hi with rfl | rfl <;> decide) (by rcases hi with rfl | rfl <;> omega) (by rcases hi with rfl | rfl <;> omega) (fun _ => h _ _) hs ht
theorem set_dict {d : Addr} {o : Obj} {g : Obj → List (Addr × Obj)} {kvs : List (Str × Value)} {ps : List (Str × Str)} {k v : Str} {t u : Tok} {Q : Unit → Shared → Prop} (F : Fr h₀ L s.heap m) (N : News h₀ L s.heap news) (U : UpdF d o news g)
    (hd : o.IsDictOf (strKind prog w) kvs) (hf : PyProof.V.FlatPairs PyData.str kvs (encP ps)) (hn : ps.length ≤ 4000)
    (h : ∀ h' o' kvs', Fr h₀ L h' m → News h₀ L h' (g o') → o'.IsDictOf (strKind prog w) kvs' → PyProof.V.FlatPairs PyData.str kvs' (encP (putP ps k v)) → Q () { s with heap := h', toks := s.toks + 1 }) :
    wpAny (model prog w) A (setItem (.ref d) (.str k t) (.str v u)) Q E s := by
  refine setItem_K PyProof.V.same_str (strKind_is prog w k t) (PyProof.V.Flat.str v u) F N U hd hf (fun h' o' F' N' hd' hf' => ?_) (by rw [sizeLine_eq]; unfold encP; rw [List.length_map]; omega)
  rw [encP_put] at hf'
  exact h h' o' _ F' N' hd' hf'
end
theorem inv_two {h₀ h' : Heap} {L l : Addr} {o : Obj} {x : Addr × Obj} {J : (Str → Option Value) → List (Addr × Obj) → Prop} {m' : Str → Option Value} {own : List (Addr × Obj)} {s₁ : Shared} {tk : Nat} (F : Fr h₀ L h' m') (N : News h₀ L h' (x :: (l, o) :: own)) (ho : OwnOff own [l])
    (hj : J m' [(l, o)]) : InvEndG h₀ L J own s₁ { s₁ with heap := h', toks := tk } :=
  InvEndG.intro F N hj ho (fun p hp => by rw [List.mem_singleton.mp hp]; exact .tail _ (.head _)) (fun p hp => .tail _ (.tail _ hp))
/-- a new dict of texts by texts -/
def DictOut (w : World) (s : Shared) (ps : List (Str × Str)) (h' : Heap) (v : Value) : Prop :=
  ∃ d o kvs, v = .ref d ∧ h'.get? d = some o ∧ (d == sysModules) = false ∧ o.IsDictOf (strKind PySem.Challenge.rw_mq0234_01.row.prog w) kvs ∧ PyProof.V.FlatPairs PyData.str kvs (encP ps) ∧ s.heap.get? d = none
end Mine
end
section
open PySem PySem.W PySem.Spec PySem.Calls PyProof.Rows
namespace Mine

def kvs1 (cut : Str → Str × Str) (ys : List Str) : List (Str × Str) := ys.foldl (fun ps y => putP ps (cut y).1 (unq (cut y).2)) []
theorem kvs1_snoc (cut : Str → Str × Str) (ys : List Str) (y : Str) : kvs1 cut (ys ++ [y]) = putP (kvs1 cut ys) (cut y).1 (unq (cut y).2) := by simp [kvs1]
theorem kvs1_len (cut : Str → Str × Str) : ∀ (ys : List Str) (ps : List (Str × Str)), (ys.foldl (fun ps y => putP ps (cut y).1 (unq (cut y).2)) ps).length ≤ ps.length + ys.length
  | [], ps => Nat.le_refl _
  | y :: ys, ps => by
    have h1 := kvs1_len cut ys (putP ps (cut y).1 (unq (cut y).2))
    have h2 := putP_len ps (cut y).1 (unq (cut y).2)
    simp only [List.foldl_cons, List.length_cons]
    omega
def KJ (w : World) (ps : List (Str × Str)) (m : Str → Option Value) (nx : List (Addr × Obj)) : Prop :=
  ∃ d o kvs, nx = [(d, o)] ∧ (d == sysModules) = false ∧ o.IsDictOf (strKind PySem.Challenge.rw_mq0234_01.row.prog w) kvs ∧ PyProof.V.FlatPairs PyData.str kvs (encP ps) ∧ m (Str.ofString "parsed") = some (.ref d)
set_option maxHeartbeats 4000000 in
theorem keqv_does {w : World} {mean : ExcName → Option Value} {mg mb : Str → Option Value} {s : Shared} {l : Addr} {vs : Array Value} {ys : List Str} (cut : Str → Str × Str) (hl : s.heap.IsList l vs) (hs : StrsAre vs.toList ys) (hk : ∀ y ∈ ys, Short 4000 y ∧ Cut y (cut y).1 (cut y).2 ∧ 0 < (cut y).2.length ∧ Short 4000 (cut y).2) (hn : ys.length ≤ 4000) :
    Does w mean mg mb 1 21 [.ref l] s (DictOut w s (kvs1 cut ys)) := by
  k_with_none
  k_with "eval ListComp" => (k_dflt (k_here; (with_reducible refine' comp_open (by k_dflt (decide)) (by k_dflt (exact rfl)) (by k_dflt (decide)) ?_ (by k_dflt ((intro _; rfl)))); k_whole))
  k_with "eval Name" => (k_dflt (k_here; (with_reducible show wpAny _ _ (eval (Expr.Name _ _) (compEnv _ _ _)) _ _ _); (first | ((with_reducible refine' nameC_L (by k_dflt (k_asm)) (by k_dflt (exact rfl)) ?_ (by k_dflt (exact rfl)) (by k_dflt (exact rfl)) (by k_dflt (decide))); k_whole) | ((with_reducible refine' nameC_K (by k_dflt (k_asm)) (by k_dflt (k_asm)) (by k_dflt (k_asm)) (by k_dflt (k_is)) ?_ (by k_dflt (exact rfl)) (by k_dflt (exact rfl)) (by k_dflt (exact rfl)) (by k_dflt (decide))); k_whole) | ((with_reducible refine' nameC_B (by k_dflt (k_asm)) (by k_dflt (k_asm)) (by k_dflt (k_asm)) (by k_dflt (k_is)) (by k_dflt (boot_fast)) (by k_dflt (decide)) ?_ (by k_dflt (exact rfl)) (by k_dflt (exact rfl)) (by k_dflt (exact rfl)) (by k_dflt (exact rfl)) (by k_dflt (decide))); k_whole))))
  k_with "exec For Name Name cons nil" => (k_dflt (k_here; (with_reducible refine' for_open ?_ (by k_dflt ((intro _; rfl)))); k_whole))
  k_with "exec For Name Call cons nil" => (k_dflt (k_here; (with_reducible refine' for_open ?_ (by k_dflt ((intro _; rfl)))); k_whole))
  k_with "exec For Name Subscript cons nil" => (k_dflt (k_here; (with_reducible refine' for_open ?_ (by k_dflt ((intro _; rfl)))); k_whole))
  k_with "exec For Tuple Name cons nil" => (k_dflt (k_here; (with_reducible refine' for_open ?_ (by k_dflt ((intro _; rfl)))); k_whole))
  k_with "exec For Tuple Call cons nil" => (k_dflt (k_here; (with_reducible refine' for_open ?_ (by k_dflt ((intro _; rfl)))); k_whole))
  k_with "ite" => (k_dflt ((with_reducible show ite (_ = true) _ _); (with_reducible refine ite_split ?_ ?_) <;> intro _))
  k_with "ite" => (k_dflt (k_closed; (first | (with_reducible refine ite_neg (by k_dflt (decide)) ?_) | (with_reducible refine ite_pos (by k_dflt (decide)) ?_))))
  k_with "call builtin:str.split" => (k_dflt ((with_reducible refine' split_eq (by k_dflt (k_asm)) (by k_dflt (k_asm)) (by k_dflt (assumption)) (by k_dflt (with_reducible assumption)) ?_); k_whole; intro DWq u1Wq u2Wq hWq tkWq FWq NWq l1Wq; (try k_lt l1Wq); (try k_sweep)))
  k_with "subscriptTail" => (k_dflt ((with_reducible show wpAny _ _ (subscriptTail _ _ (Value.str _ _) (Value.int _ _)) _ _ _); (with_reducible refine' str_item (by k_dflt (assumption)) (by k_dflt (with_reducible assumption)) (by k_dflt (first | exact .inl rfl | exact .inr rfl)) ?_ (by k_dflt (with_unfolding_all rfl)) (by k_dflt ((intro _; with_unfolding_all rfl)))); k_whole; intro _ _))
  k_with "compareOp Eq str str" => (k_dflt (with_reducible refine PyProof.Rows.eq_str ?_))
  k_with "setItem ref str" => (k_dflt ((with_reducible refine' Mine.set_dict (by k_dflt (k_asm)) (by k_dflt (k_asm)) (by k_dflt (k_updF)) (by k_dflt (assumption)) (by k_dflt (assumption)) (by k_dflt (assumption)) ?_); k_whole; intro hWq oWq kWq FWq NWq dWq fWq; (try dsimp only at NWq); (try k_sweep)))
  k_dflt (refine' enter (binds := [(Str.ofString "l", .ref l)]) ?k6 ?k7 ?k9 ?kB ?_ ?c2 ?c3 ?c4 ?c5; (case k6 => k_is); (case k7 => k_is); (case k9 => exact BindsTo.of_eq rfl); (case c5 => decide); (case kB => exact locs rfl); (case c2 => exact rfl); (case c3 => exact rfl); (case c4 => exact rfl); k_whole; intro dp' un' gd' cn' cs' L0' a' ccd' cl' outer' base' L' h' B' F' N' X' T' hd' hu'; (try dsimp only); (try k_fold))
  k_steps
  (with_reducible rename Fr _ _ _ _ => F8); (with_reducible rename News _ _ _ _ => N8)
  refine loop_list (h₀ := s.heap) (fun i m nx => KJ w (kvs1 cut (ys.take i)) m nx) (.inl ⟨_, _, rfl⟩) rfl (hl.at fun o e => F8.keep _ _ e) F8 N8 ?_ PassesOwn.never ?_ ?_ ?_
  · intro p hp e
    obtain ⟨o, ho, _⟩ := hl
    have := (N8 p hp).2.2
    rw [e, ho] at this; cases this
  · exact ⟨_, _, _, rfl, by assumption, by assumption, by assumption, rfl⟩
  · rintro i v m1 nx h tk own hv hJ ho F1 N1
    obtain ⟨y, t, hy, rfl⟩ := strs_get hs (by rw [Array.getElem?_toList]; exact hv)
    have e1 : ys.take (i + 1) = ys.take i ++ [y] := by simp [List.take_add_one, hy]
    rw [e1, kvs1_snoc]
    have hlen : (kvs1 cut (ys.take i)).length ≤ 4000 := by
      have h1 := kvs1_len cut (ys.take i) []
      have h2 : (ys.take i).length ≤ ys.length := by rw [List.length_take]; omega
      unfold kvs1
      simp only [List.length_nil] at h1
      omega
    generalize kvs1 cut (ys.take i) = ps at hJ hlen ⊢
    obtain ⟨d, o, kvs, rfl, q0, q1, q2, q3⟩ := hJ
    replace F1 := fr_canon F1 [(Str.ofString "parsed", Value.ref d)] (by
      refine List.forall_mem_cons.mpr ⟨q3, List.forall_mem_nil _⟩)
    dsimp only [kstB, List.cons_append, List.nil_append, envOf] at F1 N1
    obtain ⟨hS, hC, hV, hVS⟩ := hk y (List.mem_of_getElem? hy)
    have hL : (cut y).2.length ≤ 4000 := hVS
    clear F8 N8 q3 hk
    k_steps
    all_goals refine inv_two (by assumption) (by assumption) ho ?_
    · rw [unq_yes (by assumption) (by assumption)]; exact ⟨d, _, _, rfl, q0, by assumption, by assumption, rfl⟩
    · rw [unq_no2 (by assumption)]; exact ⟨d, _, _, rfl, q0, by assumption, by assumption, rfl⟩
    · rw [unq_no1 (by assumption)]; exact ⟨d, _, _, rfl, q0, by assumption, by assumption, rfl⟩
  · intro h tk m1 nx F1 N1 hJ
    have e1 : ys.take vs.size = ys := List.take_of_length_le (by rw [← strs_len hs, Array.length_toList]; exact Nat.le_refl _)
    rw [e1] at hJ
    obtain ⟨d, o, kvs, rfl, q0, q1, q2, q3⟩ := hJ
    replace F1 := fr_canon F1 [(Str.ofString "parsed", Value.ref d)] (by
      refine List.forall_mem_cons.mpr ⟨q3, List.forall_mem_nil _⟩)
    dsimp only [kstB, envOf] at F1 N1
    clear F8 N8 q3 hk
    k_steps
    exact ends_val F1 ⟨d, o, kvs, rfl, (N1 _ (.head _)).1, q0, q1, q2, (N1 _ (.head _)).2.2⟩
end Mine
end
section
open PySem PySem.W PySem.Spec PySem.Calls PyProof.Rows
namespace Mine
theorem entry_itemiter_iter : entryFor table "dict_itemiterator.__iter__" = some Builtin.«dict_keyiterator.__iter__» :=
  entryFor_alias (id' := "dict_keyiterator.__iter__") (by kernel_rfl) (by first | rfl | decide +kernel | (unfold String.splitOn; simp +decide [String.splitOnAux])) (by decide +kernel) (by kernel_rfl)
section
variable {prog : Program} {w : World} {A : Around}
theorem iter_items {knd : KeyKind prog w Str} {elts : List Expr} {k : Nat} {px : Pos} (hh : A.handled = none) (I d : Addr) (hne : d ≠ I) (kvs : List (Str × Value)) (ep : Nat) :
    Iter prog w A (.Tuple elts k px) I [I, d] [I] kvs.length
      (fun i v h => ∃ T key kk val, v = .ref T ∧ h.get? T = some { cls := .type "tuple", data := .seq #[key, val] } ∧ kvs[i]? = some (kk, val) ∧ knd.is kk key = true)
      (fun i h => (∃ ok ov, IsItemIter h I d i kvs.length ep ok ov) ∧ h.DictAt knd d kvs ep) where
  sub := fun b hb => by simp at hb; simp [hb]
  live := fun i h st b hb => by
    obtain ⟨⟨ok, ov, hI⟩, o, es, ho, _⟩ := st
    rcases List.mem_cons.mp hb with rfl | hb
    · exact ⟨_, hI⟩
    · rw [List.mem_singleton.mp hb]; exact ⟨o, ho⟩
  frame := fun i h h' st hk => by
    obtain ⟨⟨ok, ov, hI⟩, o, es, ho, r⟩ := st
    exact ⟨⟨ok, ov, hk I (by simp) _ hI⟩, o, es, hk d (by simp) o ho, r⟩
  next := fun i s Q E hi st hQ => by
    obtain ⟨⟨ok, ov, hI⟩, hD⟩ := st
    obtain ⟨o, es, ho, r⟩ := id hD
    have hIlt : I < s.heap.objs.size := Heap.lt_size hI
    refine wpAny_pyNext_items_item (k := (kvs[i]'hi).1) (v := (kvs[i]'hi).2) hI hD (by rw [List.getElem?_eq_getElem hi]) fun key h' hkey hOut hT hsz hk' => ?_
    refine wpAny_letOwnedTupleGo_items hOut fun h'' hIn hs'' => ?_
    have hTI : s.heap.objs.size ≠ I := Nat.ne_of_gt hIlt
    refine hQ _ h'' s.toks ⟨_, key, _, _, rfl, hs''.extBut _ _ hTI hT, by rw [List.getElem?_eq_getElem hi], hkey⟩ ⟨⟨_, _, hIn⟩, o, es, hs''.extBut _ _ hne (hk' _ _ hne ho), r⟩ fun b o hb e => ?_
    have hbI : b ≠ I := fun q => hb (by simp [q])
    exact hs''.extBut _ _ hbI (hk' b o hbI e)
  done := fun s Q E st hQ => by
    obtain ⟨⟨ok, ov, hI⟩, hD⟩ := st
    exact wpAny_pyNext_items_end hh hI hD (by simp) fun h' he => hQ h' s.toks fun b o hb e => he b o (fun q => hb (by simp [q])) e
  self := fun i s Q E st h => by
    obtain ⟨⟨ok, ov, hI⟩, hD⟩ := st
    have hT : s.TypeIs (.ref I) "dict_itemiterator" := ⟨_, hI, rfl⟩
    refine wpAny_pyIter_slot hT F.slot_dict_itemiterator_iter (wpAny_call_entry F.slot_dict_itemiterator_iter hT entry_itemiter_iter ?_ (F.args_dict_itemiterator_iter_1 _))
    show wpAny _ _ (ret (.ref I)) _ _ s
    exact wpAny_pure ⟨_, rfl, "dict_itemiterator", _, hT, F.slot_dict_itemiterator_next.lookup, h⟩
  tup := fun i h st b hb o ho => by
    obtain ⟨⟨ok, ov, hI⟩, hD⟩ := st
    rw [List.mem_singleton.mp hb] at ho
    have hI' : h.get? I = some _ := hI
    rw [ho] at hI'; cases hI'
    show Value.type "dict_itemiterator" ≠ Value.type "tuple"
    decide
end
theorem flat_get {kvs : List (Str × Value)} {ps : List (Str × Str)} (hf : PyProof.V.FlatPairs PyData.str kvs (encP ps)) : kvs.length = ps.length ∧ ∀ (i : Nat) kk val, kvs[i]? = some (kk, val) → ∃ v t, ps[i]? = some (kk, v) ∧ val = .str v t := by
  induction ps generalizing kvs with
  | nil => cases hf; exact ⟨rfl, fun i kk val h => by simp at h⟩
  | cons p ps ih =>
    obtain ⟨pk, pv⟩ := p
    cases hf with
    | cons hv r =>
      obtain ⟨h1, h2⟩ := ih r
      refine ⟨by simp [h1], fun i kk val h => ?_⟩
      cases i with
      | zero =>
        cases h
        obtain ⟨t, e, _⟩ := reads_str_inv (hv default)
        exact ⟨_, t, rfl, e⟩
      | succ i => exact h2 i kk val (by simpa using h)
section
variable {prog : Program} {w : World} {A : Around} {s : Shared} {env : Env} {h₀ : Heap} {E : Value → Shared → Prop} {Q : Flow → Shared → Prop} {body : List Stmt} {m : Str → Option Value} {news : List (Addr × Obj)}
theorem loop_items {elts : List Expr} {k : Nat} {px : Pos} {V d : Addr} {o : Obj} {kvs : List (Str × Value)} {ps : List (Str × Str)} (J : Nat → (Str → Option Value) → List (Addr × Obj) → Prop)
    (hh : A.handled = none) (hV : s.heap.IsItemsView V d) (ho : s.heap.get? d = some o) (hd : o.IsDictOf (strKind prog w) kvs) (hf : PyProof.V.FlatPairs PyData.str kvs (encP ps)) (F : Fr h₀ env.locals s.heap m) (N : News h₀ env.locals s.heap news) (hnl : ∀ p ∈ news, p.1 ≠ d) (hdL : env.locals ≠ d)
    (hE : PassesOwn (model prog w) A env E) (h0 : J 0 m news)
    (turn : ∀ (i : Nat) (T : Addr) (kk v : Str) (t u : Tok) (m₁ : Str → Option Value) (nx : List (Addr × Obj)) (h : Heap) (tk : Nat) (own : List (Addr × Obj)), ps[i]? = some (kk, v) → IsTup h T [Value.str kk t, Value.str v u].toArray → J i m₁ nx → OwnOff own (nx.map (·.1)) → Fr h₀ env.locals h m₁ → News h₀ env.locals h (nx ++ own) →
      wpAny (model prog w) A (assign (.Tuple elts k px) env (.ref T)) (fun _ s₂ => wpAny (model prog w) A (execs body env) (InvPostG h₀ env.locals (J (i + 1)) own s Q) E s₂) E { s with heap := h, toks := tk })
    (done : ∀ h' tk m' nx, Fr h₀ env.locals h' m' → News h₀ env.locals h' nx → J ps.length m' nx → Q .next { s with heap := h', toks := tk }) :
    wpAny (model prog w) A (pyIter (.ref V)) (fun it s₂ => LoopT prog w A env (.Tuple elts k px) body Q E it s₂) E s := by
  obtain ⟨hlen, hget⟩ := flat_get hf
  obtain ⟨es, ep, r⟩ := id hd
  have hD : s.heap.DictAt (strKind prog w) d kvs ep := ⟨o, es, ho, r⟩
  have hne : d ≠ s.heap.objs.size := Nat.ne_of_lt (Heap.lt_size ho)
  refine wpAny_pyIter_items hV hD ?_
  refine loop_run (h₀ := h₀) (iter_items (knd := strKind prog w) hh s.heap.objs.size d hne kvs ep) ?_ ?_ ?_ ⟨⟨_, _, Heap.get?_push_size _ rfl⟩, o, es, Heap.get?_push_of_some _ ho, r⟩ (F.push _) (fun p hp => ⟨Heap.get?_push_of_some _ (N p hp).1, (N p hp).2⟩) J h0 ?_ (fun h' tk m' nx F' N' hJ => done h' tk m' nx F' N' (by rw [← hlen]; exact hJ)) hE
  · intro hm
    rcases List.mem_cons.mp hm with e | hm
    · exact absurd F.ns.lt (e ▸ Nat.lt_irrefl _)
    · exact hdL (List.mem_singleton.mp hm)
  · intro b hb; rw [List.mem_singleton.mp hb]; exact next_is_new F
  · intro p hp hI
    rcases List.mem_cons.mp hI with e | hm
    · exact absurd (Heap.lt_size (N p hp).1) (e ▸ Nat.lt_irrefl _)
    · exact hnl p hp (List.mem_singleton.mp hm)
  · rintro i v m₁ nx h tk own _ ⟨T, key, kk, val, rfl, hT, hg, hk⟩ hJ ho' F₁ N₁
    obtain ⟨v', u, e1, rfl⟩ := hget i kk val hg
    obtain ⟨t, rfl⟩ := Value.isStrOf_shape hk
    exact turn i T kk v' t u m₁ nx h tk own e1 ⟨_, hT, rfl, 0, rfl⟩ hJ ho' F₁ N₁
end
section
variable {w : World} {mean : ExcName → Option Value} {mg mb : Str → Option Value} {n : Nat} {f : Addr} {vals : List Value} {s : Shared}
    {dp un : Nat} {gd : Option (List Code)} {cn : Str} {cs : Scope} {L a : Addr} {ccd : Value} {cl : List (Str × Addr)} {outer : List Env} {A₀ : Around} {base h₀ : Heap} {m : Str → Option Value} {news : List (Addr × Obj)} {Q E : Value → Shared → Prop}
theorem use_strs {ys : List Str} (D : Does w mean mg mb n f vals s (StrsOut s ys))
    (B : Below A₀ base outer h₀) (F : Fr h₀ L s.heap m) (X : (hd.heap_39 w.params).In h₀) (T : Top hd.view_39 (looseW hd.view_39 [Str.ofString "ONE_THIRD", Str.ofString "ONE_SIXTH", Str.ofString "TWO_THIRD"]) mean mg mb h₀)
    (N : News h₀ L s.heap news) (hk : cs.kind = .function) (hd : dp + n < recursionLimit) (hu : un + 8 * n < cLine)
    (h : ∀ b vs k h' tk', Fr h₀ L h' m → News h₀ L h' ((b, listOf vs k) :: news) → (∀ p ∈ news, p.1 ≠ b) → StrsAre vs.toList ys → Q (.ref b) { s with heap := h', toks := tk' }) :
    wpAny (model PySem.Challenge.rw_mq0234_01.row.prog w) (ktrTop dp un gd cn cs L a ccd cl outer) (call (.ref f) vals) Q E s := by
  refine use D B F X T N hk hd hu ?_
  rintro r h' tk' F' N' k ⟨b, vs, nn, rfl, e, hs, hn⟩
  exact h b vs nn h' tk' F' (news_add F N k e hn) (news_ne N hn) hs
theorem use_dict {ps : List (Str × Str)} (D : Does w mean mg mb n f vals s (DictOut w s ps))
    (B : Below A₀ base outer h₀) (F : Fr h₀ L s.heap m) (X : (hd.heap_39 w.params).In h₀) (T : Top hd.view_39 (looseW hd.view_39 [Str.ofString "ONE_THIRD", Str.ofString "ONE_SIXTH", Str.ofString "TWO_THIRD"]) mean mg mb h₀)
    (N : News h₀ L s.heap news) (hk : cs.kind = .function) (hd : dp + n < recursionLimit) (hu : un + 8 * n < cLine)
    (h : ∀ b o kvs h' tk', Fr h₀ L h' m → News h₀ L h' ((b, o) :: news) → (∀ p ∈ news, p.1 ≠ b) → (b == sysModules) = false → o.IsDictOf (strKind PySem.Challenge.rw_mq0234_01.row.prog w) kvs → PyProof.V.FlatPairs PyData.str kvs (encP ps) → Q (.ref b) { s with heap := h', toks := tk' }) :
    wpAny (model PySem.Challenge.rw_mq0234_01.row.prog w) (ktrTop dp un gd cn cs L a ccd cl outer) (call (.ref f) vals) Q E s := by
  refine use D B F X T N hk hd hu ?_
  rintro r h' tk' F' N' k ⟨b, o, kvs, rfl, e, h1, h2, h3, hn⟩
  exact h b o kvs h' tk' F' (news_add F N k e hn) (news_ne N hn) h1 h2 h3
end
theorem replace_short {prog : Program} {w : World} {A : Around} {E : Value → Shared → Prop} {s : Shared} {Q : Value → Shared → Prop} {x : Str} {t u v : Tok} (hx : Short 4000 x) (hu : u ≠ 0) (hv : v ≠ 0) (huv : u ≠ v)
    (h : ∀ t' k, Q (.str (Txt.replace x (Str.ofString "=") (Str.ofString ",")) t') { s with toks := k }) :
    wpAny (model prog w) A (call (.builtin "str.replace") [.str x t, .str (Str.ofString "=") u, .str (Str.ofString ",") v]) Q E s :=
  SC.replaceW hu hv huv (by decide) (by unfold Short at hx; omega) (by decide) h
theorem strs_two {vs : Array Value} {a b : Str} (h : StrsAre vs.toList [a, b]) : ∃ t1 t2, vs = [Value.str a t1, Value.str b t2].toArray := by
  obtain ⟨l⟩ := vs
  have h : StrsAre l [a, b] := h
  cases h with
  | cons _ _ h1 =>
    cases h1 with
    | cons _ _ h2 =>
      cases h2
      exact ⟨_, _, rfl⟩
theorem toks_pos {α : Type} {prog : Program} {w : World} {A : Around} {p : Sem α} {Q : α → Shared → Prop} {E : Value → Shared → Prop} {h : Heap} {g d o} {n : Nat} (hp : ∀ k, k ≠ 0 → wpAny (model prog w) A p Q E ⟨h, g, d, k, o⟩) : wpAny (model prog w) A p Q E ⟨h, g, d, n + 1, o⟩ := hp _ (Nat.succ_ne_zero n)
section
variable {w : World} {mean : ExcName → Option Value} {mg mb : Str → Option Value} {n : Nat} {f : Addr} {vals : List Value} {s : Shared}
    {dp un : Nat} {gd : Option (List Code)} {cn : Str} {cs : Scope} {L a : Addr} {ccd : Value} {cl : List (Str × Addr)} {outer : List Env} {A₀ : Around} {base h₀ : Heap} {m : Str → Option Value} {news : List (Addr × Obj)} {Q E : Value → Shared → Prop}
theorem use_two {ys : List Str} {x y : Str} (D : Does w mean mg mb n f vals s (StrsOut s ys)) (e : ys = [x, y])
    (B : Below A₀ base outer h₀) (F : Fr h₀ L s.heap m) (X : (hd.heap_39 w.params).In h₀) (T : Top hd.view_39 (looseW hd.view_39 [Str.ofString "ONE_THIRD", Str.ofString "ONE_SIXTH", Str.ofString "TWO_THIRD"]) mean mg mb h₀)
    (N : News h₀ L s.heap news) (hk : cs.kind = .function) (hd : dp + n < recursionLimit) (hu : un + 8 * n < cLine)
    (h : ∀ b t1 t2 k h' tk', Fr h₀ L h' m → News h₀ L h' ((b, listOf [Value.str x t1, Value.str y t2].toArray k) :: news) → (∀ p ∈ news, p.1 ≠ b) → Q (.ref b) { s with heap := h', toks := tk' }) :
    wpAny (model PySem.Challenge.rw_mq0234_01.row.prog w) (ktrTop dp un gd cn cs L a ccd cl outer) (call (.ref f) vals) Q E s := by
  subst e
  refine use D B F X T N hk hd hu ?_
  rintro r h' tk' F' N' k ⟨b, vs, nn, rfl, e, hs, hn⟩
  obtain ⟨t1, t2, rfl⟩ := strs_two hs
  exact h b t1 t2 nn h' tk' F' (news_add F N k e hn) (news_ne N hn)
end
section
variable {prog : Program} {w : World} {A : Around} {E : Value → Shared → Prop} {s : Shared} {Q : Value → Shared → Prop} {h₀ : Heap} {L : Addr} {m : Str → Option Value}
theorem append_two {D b l : Addr} {o1 o2 : Obj} {vs : Array Value} {n : Nat} {r : List (Addr × Obj)} {v : Value} (F : Fr h₀ L s.heap m) (N : News h₀ L s.heap ((D, o1) :: (b, o2) :: (l, listOf vs n) :: r)) (hx : ∀ p ∈ (b, o2) :: (l, listOf vs n) :: r, p.1 < D) (hy : b ≠ l) (hr : OwnOff r [l]) (hz : vs.size ≤ sizeLine)
    (h : ∀ h', Fr h₀ L h' m → News h₀ L h' ((D, o1) :: (b, o2) :: (l, listOf (vs.push v) (n + 1)) :: r) → Q .none { s with heap := h' }) : wpAny (model prog w) A (call (.builtin "list.append") [.ref l, v]) Q E s :=
  append_K F N (Upd.tail (fun e => absurd (hx _ (.tail _ (.head _))) (by rw [show D = l from e]; exact Nat.lt_irrefl _)) (Upd.tail hy (Upd.head fun p hp => hr p hp l (.head _)))) h hz
end
theorem inv_push {h₀ h' : Heap} {L l D : Addr} {o o' o1 : Obj} {pre : List (Addr × Obj)} {tl : List (Addr × Obj)} {J : (Str → Option Value) → List (Addr × Obj) → Prop} {m' : Str → Option Value} {own : List (Addr × Obj)} {s₁ : Shared} {tk : Nat} (F : Fr h₀ L h' m') (N : News h₀ L h' ((D, o1) :: (pre ++ (l, o) :: (tl ++ own))))
    (hx : ∀ p ∈ pre ++ (l, o') :: (tl ++ own), p.1 < D) (ho : OwnOff own (List.map (fun x => x.1) ((l, o') :: tl)))
    (hj : J m' ((l, o) :: (D, o1) :: tl)) : InvEndG h₀ L J own s₁ { s₁ with heap := h', toks := tk } := by
  refine InvEndG.intro F N hj (fun p hp b hb => ?_) (fun p hp => ?_) (fun p hp => .tail _ (List.mem_append_right _ (.tail _ (List.mem_append_right _ hp))))
  · rcases List.mem_cons.mp hb with rfl | hb
    · exact ho p hp _ (.head _)
    · rcases List.mem_cons.mp hb with rfl | hb
      · exact Nat.ne_of_lt (hx p (List.mem_append_right _ (.tail _ (List.mem_append_right _ hp))))
      · exact ho p hp b (.tail _ hb)
  · rcases List.mem_cons.mp hp with rfl | hp
    · exact .tail _ (List.mem_append_right _ (.head _))
    · rcases List.mem_cons.mp hp with rfl | hp
      · exact .head _
      · exact .tail _ (List.mem_append_right _ (.tail _ (List.mem_append_left _ hp)))
end Mine
end
section
open PySem PySem.W PySem.Spec PySem.Calls PyProof.Rows
namespace Mine

/-- what a pair of the dict tells -/
def Told (p : Str × Str) (t : Int × Int × Int) : Prop := p.1 = txt t.1 ∧ httpL (Txt.replace p.2 (Str.ofString "=") (Str.ofString ",")) = [txt t.2.1, txt t.2.2] ∧ small3 t = true ∧ Short 4000 p.2 ∧ Short 4000 (Txt.replace p.2 (Str.ofString "=") (Str.ofString ","))
/-- a list's items are tuples of three ints, each on the ledger -/
def TriL (tl : List (Addr × Obj)) (vs : Array Value) (ts : List (Int × Int × Int)) : Prop :=
  vs.size = ts.length ∧ ∀ (i : Nat) v, vs[i]? = some v → ∃ c T t1 t2 t3, ts[i]? = some c ∧ v = .ref T ∧ (T, { cls := .type "tuple", data := .seq (tri c t1 t2 t3) }) ∈ tl
theorem triL_nil {tl : List (Addr × Obj)} : TriL tl #[] [] := ⟨rfl, fun i v h => by simp at h⟩
theorem triL_push {tl : List (Addr × Obj)} {vs : Array Value} {ts : List (Int × Int × Int)} {c : Int × Int × Int} {T : Addr} {t1 t2 t3 : Tok} (h : TriL tl vs ts) :
    TriL ((T, { cls := .type "tuple", data := .seq (tri c t1 t2 t3) }) :: tl) (vs.push (.ref T)) (ts ++ [c]) := by
  refine ⟨by simp [h.1], fun i v hv => ?_⟩
  rw [Array.getElem?_push] at hv
  split at hv
  · cases hv
    refine ⟨c, T, t1, t2, t3, ?_, rfl, .head _⟩
    rw [List.getElem?_append_right (by rw [← h.1]; omega)]
    simp [*, h.1]
  · obtain ⟨c', T', u1, u2, u3, e1, e2, e3⟩ := h.2 i v hv
    have hi := (Array.getElem?_eq_some_iff.mp hv).1
    exact ⟨c', T', u1, u2, u3, by rw [List.getElem?_append_left (by rw [← h.1]; exact hi)]; exact e1, e2, .tail _ e3⟩
def TriOut (s : Shared) (ts : List (Int × Int × Int)) (h' : Heap) (v : Value) : Prop :=
  ∃ a vs n, v = .ref a ∧ h'.get? a = some (listOf vs n) ∧ vs.size = ts.length ∧ (∀ (i : Nat) v, vs[i]? = some v → ∃ c T t1 t2 t3, ts[i]? = some c ∧ v = .ref T ∧ h'.get? T = some { cls := .type "tuple", data := .seq (tri c t1 t2 t3) } ∧ s.heap.get? T = none) ∧ s.heap.get? a = none
def RJ (ts : List (Int × Int × Int)) (m : Str → Option Value) (nx : List (Addr × Obj)) : Prop :=
  ∃ l vs n tl, nx = (l, listOf vs n) :: tl ∧ TriL tl vs ts ∧ (∀ p ∈ tl, p.1 ≠ l) ∧ m (Str.ofString "told") = some (.ref l)
set_option maxHeartbeats 4000000 in
theorem read_does {w : World} {mean : ExcName → Option Value} {mg mb : Str → Option Value} {s : Shared} {l : Addr} {vs : Array Value} {xs : List Str} {ts : List (Int × Int × Int)} (cut : Str → Str × Str) (hl : s.heap.IsList l vs) (hs : StrsAre vs.toList xs) (hw : Weigh 4000 xs)
    (hk : ∀ y ∈ httpL (Txt.join (Str.ofString ",") xs), Short 4000 y ∧ Cut y (cut y).1 (cut y).2 ∧ 0 < (cut y).2.length ∧ Short 4000 (cut y).2) (hn : (httpL (Txt.join (Str.ofString ",") xs)).length ≤ 4000)
    (ht : (kvs1 cut (httpL (Txt.join (Str.ofString ",") xs))).length = ts.length) (hT : ∀ (i : Nat) p, (kvs1 cut (httpL (Txt.join (Str.ofString ",") xs)))[i]? = some p → ∃ t, ts[i]? = some t ∧ Told p t) (hts : ts.length ≤ 4000) :
    Does w mean mg mb 2 94 [.ref l] s (TriOut s ts) := by
  k_with_none
  k_with "eval ListComp" => (k_dflt (k_here; (with_reducible refine' comp_open (by k_dflt (decide)) (by k_dflt (exact rfl)) (by k_dflt (decide)) ?_ (by k_dflt ((intro _; rfl)))); k_whole))
  k_with "eval Name" => (k_dflt (k_here; (with_reducible show wpAny _ _ (eval (Expr.Name _ _) (compEnv _ _ _)) _ _ _); (first | ((with_reducible refine' nameC_L (by k_dflt (k_asm)) (by k_dflt (exact rfl)) ?_ (by k_dflt (exact rfl)) (by k_dflt (exact rfl)) (by k_dflt (decide))); k_whole) | ((with_reducible refine' nameC_K (by k_dflt (k_asm)) (by k_dflt (k_asm)) (by k_dflt (k_asm)) (by k_dflt (k_is)) ?_ (by k_dflt (exact rfl)) (by k_dflt (exact rfl)) (by k_dflt (exact rfl)) (by k_dflt (decide))); k_whole) | ((with_reducible refine' nameC_B (by k_dflt (k_asm)) (by k_dflt (k_asm)) (by k_dflt (k_asm)) (by k_dflt (k_is)) (by k_dflt (boot_fast)) (by k_dflt (decide)) ?_ (by k_dflt (exact rfl)) (by k_dflt (exact rfl)) (by k_dflt (exact rfl)) (by k_dflt (exact rfl)) (by k_dflt (decide))); k_whole))))
  k_with "exec For Name Name cons nil" => (k_dflt (k_here; (with_reducible refine' for_open ?_ (by k_dflt ((intro _; rfl)))); k_whole))
  k_with "exec For Name Call cons nil" => (k_dflt (k_here; (with_reducible refine' for_open ?_ (by k_dflt ((intro _; rfl)))); k_whole))
  k_with "exec For Name Subscript cons nil" => (k_dflt (k_here; (with_reducible refine' for_open ?_ (by k_dflt ((intro _; rfl)))); k_whole))
  k_with "exec For Tuple Name cons nil" => (k_dflt (k_here; (with_reducible refine' for_open ?_ (by k_dflt ((intro _; rfl)))); k_whole))
  k_with "exec For Tuple Call cons nil" => (k_dflt (k_here; (with_reducible refine' for_open ?_ (by k_dflt ((intro _; rfl)))); k_whole))
  k_with "ite" => (k_dflt ((with_reducible show ite (_ = true) _ _); (with_reducible refine ite_split ?_ ?_) <;> intro _))
  k_with "ite" => (k_dflt (k_closed; (first | (with_reducible refine ite_neg (by k_dflt (decide)) ?_) | (with_reducible refine ite_pos (by k_dflt (decide)) ?_))))
  k_with "call builtin:str.join" => (k_dflt (k_here; (with_reducible show wpAny _ _ (call (Value.builtin _) [Value.str _ _, Value.ref _]) _ _ _); (with_reducible refine' join_short (by k_dflt (first | exact News.isList (by k_asm) (by k_mem) | exact Fr.lst (by k_asm) (by assumption))) (by k_dflt (assumption)) (by k_dflt (decide)) (by k_dflt (assumption)) (by k_dflt (decide)) ?_); k_whole; intro _ _ _))
  k_with "call builtin:str.replace" => (k_dflt ((with_reducible refine' replace_short (by k_dflt (with_reducible assumption)) (by k_dflt (first | assumption | exact Nat.succ_ne_zero _)) (by k_dflt (exact Nat.succ_ne_zero _)) (by k_dflt (exact Nat.ne_of_lt (Nat.lt_succ_self _))) ?_); k_whole; intro _ _))
  k_with "call type:int" => (k_dflt ((with_reducible refine' KIN.call_num (by k_dflt (assumption)) (by k_dflt (assumption)) ?_); k_whole))
  k_with "execs cons" => (k_dflt (k_here; (with_reducible refine toks_pos ?_); intro tkWq htkWq))
  k_with "newTuple" => (k_dflt (k_here; (with_reducible refine' kup_newTuple (by k_dflt (k_asm)) (by k_dflt (k_asm)) ?_ (by k_dflt (exact Nat.le_of_ble_eq_true rfl))); intro DWq hWq FWq NWq l1Wq; (try k_sweep)))
  k_with "call builtin:list.append" => (k_dflt (k_here; (with_reducible refine' append_two (by k_dflt (k_asm)) (by k_dflt (k_asm)) (by k_dflt (with_reducible assumption)) (by k_dflt (with_reducible assumption)) (by k_dflt (with_reducible assumption)) (by k_dflt (with_reducible assumption)) ?_); k_whole; intro hWq FWq NWq; (try k_sweep)))
  k_with "call ref" => (k_dflt (k_here; (with_reducible show wpAny _ _ (call (Value.ref 26) [Value.str _ _]) _ _ _); (refine' use_strs (http_does (by k_dflt (with_reducible assumption))) (by k_dflt (k_asm)) (by k_dflt (k_asm)) (by k_dflt (k_asm)) (by k_dflt (k_asm)) (by k_dflt (k_asm)) (by k_dflt (exact rfl)) (by k_dflt (((try dsimp only [ktrTop]); omega))) (by k_dflt (((try dsimp only [ktrTop]); omega))) ?_); k_whole; intro b9Wq vs9Wq k9Wq h9Wq tk9Wq F9Wq N9Wq n9Wq s9Wq; (try k_lt n9Wq); (try dsimp only); (try k_sweep); (try k_fold)))
  k_with "call ref" => (k_dflt (k_here; (with_reducible show wpAny _ _ (call (Value.ref 26) [Value.str _ _]) _ _ _); (refine' use_two (http_does (by k_dflt (with_reducible assumption))) (by k_dflt (with_reducible assumption)) (by k_dflt (k_asm)) (by k_dflt (k_asm)) (by k_dflt (k_asm)) (by k_dflt (k_asm)) (by k_dflt (k_asm)) (by k_dflt (exact rfl)) (by k_dflt (((try dsimp only [ktrTop]); omega))) (by k_dflt (((try dsimp only [ktrTop]); omega))) ?_); k_whole; intro b9Wq t9Wq u9Wq k9Wq h9Wq tk9Wq F9Wq N9Wq n9Wq; (have hblWq : b9Wq ≠ _ := fun e => n9Wq _ (.head _) e.symm); (try dsimp only); (try k_sweep); (try k_fold)))
  k_with "call ref" => (k_dflt (k_here; (with_reducible show wpAny _ _ (call (Value.ref 21) [Value.ref _]) _ _ _); (refine' use_dict (keqv_does _ (by k_dflt (exact News.isList (by k_asm) (by k_mem))) (by k_dflt (assumption)) (by k_dflt (assumption)) (by k_dflt (assumption))) (by k_dflt (k_asm)) (by k_dflt (k_asm)) (by k_dflt (k_asm)) (by k_dflt (k_asm)) (by k_dflt (k_asm)) (by k_dflt (exact rfl)) (by k_dflt (((try dsimp only [ktrTop]); omega))) (by k_dflt (((try dsimp only [ktrTop]); omega))) ?_); k_whole; intro b9Wq o9Wq k9Wq h9Wq tk9Wq F9Wq N9Wq n9Wq m9Wq d9Wq f9Wq; (try k_lt n9Wq); (try dsimp only); (try k_sweep); (try k_fold)))
  k_dflt (refine' enter (binds := [(Str.ofString "items", .ref l)]) ?k6 ?k7 ?k9 ?kB ?_ ?c2 ?c3 ?c4 ?c5; (case k6 => k_is); (case k7 => k_is); (case k9 => exact BindsTo.of_eq rfl); (case c5 => decide); (case kB => exact locs rfl); (case c2 => exact rfl); (case c3 => exact rfl); (case c4 => exact rfl); k_whole; intro dp' un' gd' cn' cs' L0' a' ccd' cl' outer' base' L' h' B' F' N' X' T' hd' hu'; (try dsimp only); (try k_fold))
  k_steps
  (with_reducible rename Fr _ _ _ _ => F8); (with_reducible rename News _ _ _ _ => N8)
  generalize kvs1 cut (httpL (Txt.join (Str.ofString ",") xs)) = ps at *
  have N7 : News s.heap L' _ [_] := fun p hp => N8 p (.tail _ (.tail _ (.tail _ hp)))
  refine loop_items (h₀ := s.heap) (ps := ps) (fun i m nx => RJ (ts.take i) m nx) rfl ⟨_, (N8 _ (.head _)).1, rfl, rfl⟩ (N8 _ (.tail _ (.head _))).1 (by assumption) (by assumption) F8 N7 ?_ ?_ PassesOwn.never ?_ ?_ ?_
  · intro p hp
    rw [List.mem_singleton.mp hp]
    rename (∀ (p : Addr × Obj), p ∈ [_, _] → _) => nn
    exact nn _ (.tail _ (.head _))
  · exact fun e => (N8 _ (.tail _ (.head _))).2.1 e.symm
  · exact ⟨_, _, _, [], rfl, triL_nil, (fun _ h => nomatch h), rfl⟩
  · rintro i T kk v t u m1 nx h tk own hp hTu hJ ho F1 N1
    obtain ⟨c, hc, e1, e2, e3, e4, e6⟩ := hT i _ hp
    dsimp only at e1 e2 e4 e6
    subst e1
    have e5 : ts.take (i + 1) = ts.take i ++ [c] := by simp [List.take_add_one, hc]
    rw [e5]
    have hlen : (ts.take i).length ≤ ts.length := by rw [List.length_take]; omega
    generalize ts.take i = rs at hJ hlen ⊢
    obtain ⟨l1, vs1, n1, tl, rfl, hL, hl1, q3⟩ := hJ
    replace F1 := fr_canon F1 [(Str.ofString "told", Value.ref l1)] (by
      refine List.forall_mem_cons.mpr ⟨q3, List.forall_mem_nil _⟩)
    dsimp only [kstB, List.cons_append, List.nil_append, envOf] at F1 N1
    have hoff : OwnOff (tl ++ own) [l1] := fun p hp b hb => by
      rw [List.mem_singleton.mp hb]
      rcases List.mem_append.mp hp with hp | hp
      · exact hl1 p hp
      · exact ho p hp l1 (.head _)
    obtain ⟨b1, b2, b3, b4, b5, b6⟩ := small3_out e3
    have c1 : c.1 < 10 ^ 10 := by omega
    have c2 : c.2.1 < 10 ^ 10 := by omega
    have c3 : c.2.2 < 10 ^ 10 := by omega
    have hz : vs1.size ≤ sizeLine := by rw [hL.1, sizeLine_eq]; omega
    clear F8 N8 N7 q3 hk hT
    refine unpackN_ F1 N1 hTu rfl rfl rfl ?_
    clear F1 N1
    intro h1 F1 N1
    k_steps
    (with_reducible rename Fr _ _ _ _ => F2); (with_reducible rename News _ _ _ _ => N2)
    (with_reducible rename (∀ p ∈ (_ :: _), _ < _) => l2)
    refine inv_push (pre := [_]) F2 N2 l2 ho ?_
    refine ⟨_, _, _, _, rfl, triL_push hL, fun p hp => ?_, rfl⟩
    rcases List.mem_cons.mp hp with rfl | hp
    · exact Nat.ne_of_gt (l2 _ (.tail _ (.head _)))
    · exact hl1 p hp
  · intro h tk m1 nx F1 N1 hJ
    rw [ht, List.take_length] at hJ
    obtain ⟨l1, vs1, n1, tl, rfl, hL, hl1, q3⟩ := hJ
    replace F1 := fr_canon F1 [(Str.ofString "told", Value.ref l1)] (by
      refine List.forall_mem_cons.mpr ⟨q3, List.forall_mem_nil _⟩)
    dsimp only [kstB, envOf] at F1 N1
    clear F8 N8 N7 q3 hk hT
    k_steps
    refine ends_val F1 ⟨l1, vs1, n1, rfl, (N1 _ (.head _)).1, hL.1, fun i v hv => ?_, (N1 _ (.head _)).2.2⟩
    obtain ⟨c, T, t1, t2, t3, e1, e2, e3⟩ := hL.2 i v hv
    exact ⟨c, T, t1, t2, t3, e1, e2, (N1 _ (.tail _ e3)).1, (N1 _ (.tail _ e3)).2.2⟩
end Mine
end
section
open PySem PySem.W PySem.Spec PySem.Calls PyProof.Rows
namespace Mine

theorem ints_get : ∀ {vs : List Value} {ys : List Int} {i : Nat} {v : Value}, IntsAre vs ys → vs[i]? = some v → ∃ y t, ys[i]? = some y ∧ v = .int y t
  | _, _, 0, _, .cons y t _, e => ⟨y, t, rfl, (Option.some.inj e).symm⟩
  | _, _, i + 1, _, .cons _ _ h, e => ints_get (i := i) h e
  | _, _, _, _, .nil, e => by simp at e
theorem ints_len {vs : List Value} {ys : List Int} (h : IntsAre vs ys) : vs.length = ys.length := by induction h with | nil => rfl | cons _ _ _ ih => simp [ih]
abbrev Cell := (Int × Int × Int) × Int × Int
abbrev cellT (T : Addr) (c : Cell) (t4 t5 : Tok) : Array Value := [Value.ref T, Value.int c.2.1 t4, Value.int c.2.2 t5].toArray
def CellL (tl : List (Addr × Obj)) (vs : Array Value) (cs : List Cell) : Prop :=
  vs.size = cs.length ∧ ∀ (i : Nat) v, vs[i]? = some v → ∃ c D T t1 t2 t3 t4 t5, cs[i]? = some c ∧ v = .ref D ∧ (D, { cls := .type "tuple", data := .seq (cellT T c t4 t5) }) ∈ tl ∧ (T, { cls := .type "tuple", data := .seq (tri c.1 t1 t2 t3) }) ∈ tl
theorem cellL_push {tl : List (Addr × Obj)} {vs : Array Value} {ts : List Cell} {c : Cell} {D T : Addr} {t1 t2 t3 t4 t5 : Tok} (h : CellL tl vs ts) :
    CellL ((D, { cls := .type "tuple", data := .seq (cellT T c t4 t5) }) :: (T, { cls := .type "tuple", data := .seq (tri c.1 t1 t2 t3) }) :: tl) (vs.push (.ref D)) (ts ++ [c]) := by
  refine ⟨by simp [h.1], fun i v hv => ?_⟩
  rw [Array.getElem?_push] at hv
  split at hv
  · cases hv
    refine ⟨c, D, T, t1, t2, t3, t4, t5, ?_, rfl, .head _, .tail _ (.head _)⟩
    rw [List.getElem?_append_right (by rw [← h.1]; omega)]
    simp [*, h.1]
  · obtain ⟨c', D', T', u1, u2, u3, u4, u5, e1, e2, e3, e4⟩ := h.2 i v hv
    have hi := (Array.getElem?_eq_some_iff.mp hv).1
    exact ⟨c', D', T', u1, u2, u3, u4, u5, by rw [List.getElem?_append_left (by rw [← h.1]; exact hi)]; exact e1, e2, .tail _ (.tail _ e3), .tail _ (.tail _ e4)⟩
def CellsAt (h : Heap) (vs : Array Value) (cs : List Cell) : Prop :=
  vs.size = cs.length ∧ ∀ (i : Nat) v, vs[i]? = some v → ∃ c D T t1 t2 t3 t4 t5, cs[i]? = some c ∧ v = .ref D ∧ h.get? D = some { cls := .type "tuple", data := .seq (cellT T c t4 t5) } ∧ h.get? T = some { cls := .type "tuple", data := .seq (tri c.1 t1 t2 t3) }
def CellOut (s : Shared) (cs : List Cell) (h' : Heap) (v : Value) : Prop := ∃ a vs n, v = .ref a ∧ h'.get? a = some (listOf vs n) ∧ CellsAt h' vs cs ∧ s.heap.get? a = none
def DJ (cs : List Cell) (m : Str → Option Value) (nx : List (Addr × Obj)) : Prop :=
  ∃ l vs n tl, nx = (l, listOf vs n) :: tl ∧ CellL tl vs cs ∧ (∀ p ∈ tl, p.1 ≠ l) ∧ m (Str.ofString "drawn") = some (.ref l)
def cellOf (n : Int) : Cell := (((n.fmod (10 ^ Int.toNat 6)).fmod 7, ((n.fmod (10 ^ Int.toNat 6)).fdiv 7).fmod 7, ((n.fmod (10 ^ Int.toNat 6)).fdiv 49).fmod 7), ((n.fmod (10 ^ Int.toNat 6)).fdiv 343).fmod 5, ((n.fmod (10 ^ Int.toNat 6)).fdiv 1715).fmod 3)
def cells5 : List Cell := [((6, 0, 0), 0, 0), ((2, 6, 4), 1, 1), ((5, 5, 5), 2, 2), ((3, 1, 1), 3, 0), ((1, 3, 2), 4, 1)]
theorem inv_push2 {h₀ h' : Heap} {L l D C : Addr} {o o' o1 o2 : Obj} {tl : List (Addr × Obj)} {J : (Str → Option Value) → List (Addr × Obj) → Prop} {m' : Str → Option Value} {own : List (Addr × Obj)} {s₁ : Shared} {tk : Nat} (F : Fr h₀ L h' m') (N : News h₀ L h' ((D, o1) :: (C, o2) :: (l, o) :: (tl ++ own)))
    (hx : ∀ p ∈ (C, o2) :: (l, o') :: (tl ++ own), p.1 < D) (hy : ∀ p ∈ (l, o') :: (tl ++ own), p.1 < C) (ho : OwnOff own (List.map (fun x => x.1) ((l, o') :: tl)))
    (hj : D ≠ l → C ≠ l → J m' ((l, o) :: (D, o1) :: (C, o2) :: tl)) : InvEndG h₀ L J own s₁ { s₁ with heap := h', toks := tk } := by
  refine InvEndG.intro F N (hj (Nat.ne_of_gt (hx _ (.tail _ (.head _)))) (Nat.ne_of_gt (hy _ (.head _)))) (fun p hp b hb => ?_) (fun p hp => ?_) (fun p hp => .tail _ (.tail _ (.tail _ (List.mem_append_right _ hp))))
  · rcases List.mem_cons.mp hb with rfl | hb
    · exact ho p hp _ (.head _)
    · rcases List.mem_cons.mp hb with rfl | hb
      · exact Nat.ne_of_lt (hx p (.tail _ (.tail _ (List.mem_append_right _ hp))))
      · rcases List.mem_cons.mp hb with rfl | hb
        · exact Nat.ne_of_lt (hy p (.tail _ (List.mem_append_right _ hp)))
        · exact ho p hp b (.tail _ hb)
  · rcases List.mem_cons.mp hp with rfl | hp
    · exact .tail _ (.tail _ (.head _))
    · rcases List.mem_cons.mp hp with rfl | hp
      · exact .head _
      · rcases List.mem_cons.mp hp with rfl | hp
        · exact .tail _ (.head _)
        · exact .tail _ (.tail _ (.tail _ (List.mem_append_left _ hp)))
theorem news_tail {h₀ h : Heap} {L : Addr} {x : Addr × Obj} {r : List (Addr × Obj)} (N : News h₀ L h (x :: r)) : News h₀ L h r := fun p hp => N p (.tail _ hp)
theorem num_lo (n : Int) : 0 ≤ n.fmod 1000000 := Int.fmod_nonneg_of_pos _ (by decide)
theorem num_hi (n : Int) : n.fmod 1000000 < 1000000 := Int.fmod_lt_of_pos _ (by decide)

set_option maxHeartbeats 4000000 in
theorem drawn_does {w : World} {mean : ExcName → Option Value} {mg mb : Str → Option Value} {s : Shared} {l : Addr} {vs : Array Value} {ns : List Int} (hl : s.heap.IsList l vs) (hi : IntsAre vs.toList ns) (hn : ns.length ≤ 63) :
    Does w mean mg mb 1 68 [.ref l] s (CellOut s (cells5 ++ (ns.take 6).map cellOf)) := by
  k_with_none
  k_with "eval ListComp" => (k_dflt (k_here; (with_reducible refine' comp_open (by k_dflt (decide)) (by k_dflt (exact rfl)) (by k_dflt (decide)) ?_ (by k_dflt ((intro _; rfl)))); k_whole))
  k_with "eval Name" => (k_dflt (k_here; (with_reducible show wpAny _ _ (eval (Expr.Name _ _) (compEnv _ _ _)) _ _ _); (first | ((with_reducible refine' nameC_L (by k_dflt (k_asm)) (by k_dflt (exact rfl)) ?_ (by k_dflt (exact rfl)) (by k_dflt (exact rfl)) (by k_dflt (decide))); k_whole) | ((with_reducible refine' nameC_K (by k_dflt (k_asm)) (by k_dflt (k_asm)) (by k_dflt (k_asm)) (by k_dflt (k_is)) ?_ (by k_dflt (exact rfl)) (by k_dflt (exact rfl)) (by k_dflt (exact rfl)) (by k_dflt (decide))); k_whole) | ((with_reducible refine' nameC_B (by k_dflt (k_asm)) (by k_dflt (k_asm)) (by k_dflt (k_asm)) (by k_dflt (k_is)) (by k_dflt (boot_fast)) (by k_dflt (decide)) ?_ (by k_dflt (exact rfl)) (by k_dflt (exact rfl)) (by k_dflt (exact rfl)) (by k_dflt (exact rfl)) (by k_dflt (decide))); k_whole))))
  k_with "exec For Name Name cons nil" => (k_dflt (k_here; (with_reducible refine' for_open ?_ (by k_dflt ((intro _; rfl)))); k_whole))
  k_with "exec For Name Call cons nil" => (k_dflt (k_here; (with_reducible refine' for_open ?_ (by k_dflt ((intro _; rfl)))); k_whole))
  k_with "exec For Name Subscript cons nil" => (k_dflt (k_here; (with_reducible refine' for_open ?_ (by k_dflt ((intro _; rfl)))); k_whole))
  k_with "exec For Tuple Name cons nil" => (k_dflt (k_here; (with_reducible refine' for_open ?_ (by k_dflt ((intro _; rfl)))); k_whole))
  k_with "exec For Tuple Call cons nil" => (k_dflt (k_here; (with_reducible refine' for_open ?_ (by k_dflt ((intro _; rfl)))); k_whole))
  k_with "ite" => (k_dflt ((with_reducible show ite (_ = true) _ _); (with_reducible refine ite_split ?_ ?_) <;> intro _))
  k_with "ite" => (k_dflt (k_closed; (first | (with_reducible refine ite_neg (by k_dflt (decide)) ?_) | (with_reducible refine ite_pos (by k_dflt (decide)) ?_))))
  k_with "newTuple" => (k_dflt (k_here; (with_reducible refine' kup_newTuple (by k_dflt (k_asm)) (by k_dflt (k_asm)) ?_ (by k_dflt (exact Nat.le_of_ble_eq_true rfl))); intro DWq hWq FWq NWq l1Wq; (have hblWq := Nat.ne_of_gt (l1Wq _ (.head _))); (try k_sweep)))
  k_with "call builtin:list.append" => (k_dflt (k_here; (with_reducible refine' append_two (by k_dflt (k_asm)) (by k_dflt (k_asm)) (by k_dflt (with_reducible assumption)) (by k_dflt (with_reducible assumption)) (by k_dflt (with_reducible assumption)) (by k_dflt (with_reducible assumption)) ?_); k_whole; intro hWq FWq NWq; (try k_sweep)))
  k_dflt (refine' enter (binds := [(Str.ofString "script", .ref l)]) ?k6 ?k7 ?k9 ?kB ?_ ?c2 ?c3 ?c4 ?c5; (case k6 => k_is); (case k7 => k_is); (case k9 => exact BindsTo.of_eq rfl); (case c5 => decide); (case kB => exact locs rfl); (case c2 => exact rfl); (case c3 => exact rfl); (case c4 => exact rfl); k_whole; intro dp' un' gd' cn' cs' L0' a' ccd' cl' outer' base' L' h' B' F' N' X' T' hd' hu'; (try dsimp only); (try k_fold))
  k_steps
  (with_reducible rename Fr _ _ _ _ => F8); (with_reducible rename News _ _ _ _ => N8)
  (with_reducible rename IntsAre _ (List.take 6 _) => i8)
  have N7 := news_tail N8
  have h6 : (ns.take 6).length ≤ 6 := by rw [List.length_take]; omega
  obtain ⟨ms, hms⟩ : ∃ ms, ms = ns.take 6 := ⟨_, rfl⟩
  rw [← hms] at i8 h6
  refine loop_list (h₀ := s.heap) (fun i m nx => DJ (cells5 ++ (ms.take i).map cellOf) m nx) (.inl ⟨_, _, rfl⟩) rfl ⟨_, (N8 _ (.head _)).1, rfl, _, rfl⟩ F8 N7 ?_ PassesOwn.never ?_ ?_ ?_
  · k_all
  · refine ⟨_, _, _, _, rfl, ⟨rfl, fun i v hv => ?_⟩, ?_, rfl⟩
    · have hi : i < 5 := (Array.getElem?_eq_some_iff.mp hv).1
      have : i = 0 ∨ i = 1 ∨ i = 2 ∨ i = 3 ∨ i = 4 := by omega
      rcases this with rfl | rfl | rfl | rfl | rfl
      all_goals cases hv
      · exact ⟨_, _, _, _, _, _, _, _, rfl, rfl, .tail _ (.tail _ (.tail _ (.tail _ (.tail _ (.tail _ (.tail _ (.tail _ (.head _)))))))), .tail _ (.tail _ (.tail _ (.tail _ (.tail _ (.tail _ (.tail _ (.tail _ (.tail _ (.head _)))))))))⟩
      · exact ⟨_, _, _, _, _, _, _, _, rfl, rfl, .tail _ (.tail _ (.tail _ (.tail _ (.tail _ (.tail _ (.head _)))))), .tail _ (.tail _ (.tail _ (.tail _ (.tail _ (.tail _ (.tail _ (.head _)))))))⟩
      · exact ⟨_, _, _, _, _, _, _, _, rfl, rfl, .tail _ (.tail _ (.tail _ (.tail _ (.head _)))), .tail _ (.tail _ (.tail _ (.tail _ (.tail _ (.head _)))))⟩
      · exact ⟨_, _, _, _, _, _, _, _, rfl, rfl, .tail _ (.tail _ (.head _)), .tail _ (.tail _ (.tail _ (.head _)))⟩
      · exact ⟨_, _, _, _, _, _, _, _, rfl, rfl, .head _, .tail _ (.head _)⟩
    · k_all
  · rintro i v m1 nx h tk own hv hJ ho F1 N1
    obtain ⟨n, t, hn1, rfl⟩ := ints_get i8 (by simpa using hv)
    have e1 : ms.take (i + 1) = ms.take i ++ [n] := by simp [List.take_add_one, hn1]
    rw [e1, List.map_append, List.map_singleton, ← List.append_assoc]
    have hlen : (cells5 ++ (ms.take i).map cellOf).length ≤ 11 := by
      rw [List.length_append, List.length_map, List.length_take]
      show 5 + _ ≤ 11
      omega
    generalize cells5 ++ (ms.take i).map cellOf = cs at hJ hlen ⊢
    obtain ⟨l1, vs1, n1, tl, rfl, hL, hl1, q3⟩ := hJ
    replace F1 := fr_canon F1 [(Str.ofString "drawn", Value.ref l1)] (by
      refine List.forall_mem_cons.mpr ⟨q3, List.forall_mem_nil _⟩)
    dsimp only [kstB, List.cons_append, List.nil_append, envOf] at F1 N1
    have hoff : OwnOff (tl ++ own) [l1] := fun p hp b hb => by
      rw [List.mem_singleton.mp hb]
      rcases List.mem_append.mp hp with hp | hp
      · exact hl1 p hp
      · exact ho p hp l1 (.head _)
    have hz : vs1.size ≤ sizeLine := by rw [hL.1, sizeLine_eq]; omega
    clear F8 N8 N7 q3
    k_steps
    (with_reducible rename Fr _ _ _ _ => F2); (with_reducible rename News _ _ _ _ => N2)
    refine inv_push2 F2 N2 ?hx ?hy ho ?_
    case hx => with_reducible assumption
    case hy => with_reducible assumption
    intro d1 d2
    refine ⟨_, _, _, _, rfl, cellL_push (c := cellOf n) hL, fun p hp => ?_, rfl⟩
    rcases List.mem_cons.mp hp with rfl | hp
    · exact d1
    · rcases List.mem_cons.mp hp with rfl | hp
      · exact d2
      · exact hl1 p hp
  · intro h tk m1 nx F1 N1 hJ
    rw [List.size_toArray, ints_len i8, List.take_length, hms] at hJ
    obtain ⟨l1, vs1, n1, tl, rfl, hL, hl1, q3⟩ := hJ
    replace F1 := fr_canon F1 [(Str.ofString "drawn", Value.ref l1)] (by
      refine List.forall_mem_cons.mpr ⟨q3, List.forall_mem_nil _⟩)
    dsimp only [kstB, envOf] at F1 N1
    clear F8 N8 N7 q3
    k_steps
    refine ends_val F1 ⟨l1, vs1, n1, rfl, (N1 _ (.head _)).1, ⟨hL.1, fun i v hv => ?_⟩, (N1 _ (.head _)).2.2⟩
    obtain ⟨c, D, T, t1, t2, t3, t4, t5, e1, e2, e3, e4⟩ := hL.2 i v hv
    exact ⟨c, D, T, t1, t2, t3, t4, t5, e1, e2, (N1 _ (.tail _ e3)).1, (N1 _ (.tail _ e4)).1⟩
end Mine
end
section
open PySem PySem.W PySem.Spec PySem.Calls PyProof.Rows
namespace Mine
section
variable {κ β γ : Type} [DecidableEq κ]
def putG (ps : List (κ × β)) (k : κ) (v : β) : List (κ × β) := if ps.any (fun p => decide (p.1 = k)) = true then ps.map (fun p => if p.1 = k then (p.1, v) else p) else ps ++ [(k, v)]
theorem any_keys (ps : List (κ × β)) (k : κ) : ps.any (fun p => decide (p.1 = k)) = true ↔ k ∈ ps.map (·.1) := by
  rw [List.any_eq_true, List.mem_map]
  constructor
  · rintro ⟨p, hp, e⟩; exact ⟨p, hp, of_decide_eq_true e⟩
  · rintro ⟨p, hp, e⟩; exact ⟨p, hp, decide_eq_true e⟩
theorem putG_keys_in {ps : List (κ × β)} {k : κ} {v : β} (h : k ∈ ps.map (·.1)) : (putG ps k v).map (·.1) = ps.map (·.1) := by
  unfold putG
  rw [if_pos ((any_keys ps k).mpr h), List.map_map]
  refine List.map_congr_left fun p _ => ?_
  show (if p.1 = k then (p.1, v) else p).1 = p.1
  split <;> rfl
theorem putG_out {ps : List (κ × β)} {k : κ} {v : β} (h : k ∉ ps.map (·.1)) : putG ps k v = ps ++ [(k, v)] := by
  unfold putG
  rw [if_neg fun e => h ((any_keys ps k).mp e)]
theorem putG_nodup {ps : List (κ × β)} {k : κ} {v : β} (h : (ps.map (·.1)).Nodup) : ((putG ps k v).map (·.1)).Nodup := by
  by_cases hk : k ∈ ps.map (·.1)
  · rw [putG_keys_in hk]; exact h
  · rw [putG_out hk, List.map_append]
    refine List.nodup_append.mpr ⟨h, by simp, ?_⟩
    intro a ha b hb e
    have hb : b = k := by simpa using hb
    subst hb; subst e
    exact hk ha
theorem putG_in : ∀ {ps : List (κ × β)} {k : κ} {v : β}, (ps.map (·.1)).Nodup → k ∈ ps.map (·.1) → putG ps k v = ps.set ((ps.map (·.1)).idxOf k) (k, v)
  | [], _, _, _, h => by simp at h
  | (a, b) :: r, k, v, hn, h => by
    have hr : (r.map (·.1)).Nodup := (List.nodup_cons.mp hn).2
    have ha : a ∉ r.map (·.1) := (List.nodup_cons.mp hn).1
    unfold putG
    rw [if_pos ((any_keys _ k).mpr h)]
    by_cases e : a = k
    · subst e
      have : r.map (fun p => if p.1 = a then (p.1, v) else p) = r := by
        conv => rhs; rw [← List.map_id r]
        refine List.map_congr_left fun p hp => ?_
        have : p.1 ≠ a := fun q => ha (q ▸ List.mem_map_of_mem hp)
        simp [this]
      simp [this]
    · have hk : k ∈ r.map (·.1) := by
        rcases List.mem_cons.mp h with q | q
        · exact absurd q.symm e
        · exact q
      have ih := putG_in (v := v) hr hk
      unfold putG at ih
      rw [if_pos ((any_keys r k).mpr hk)] at ih
      simp only [List.map_cons, e, if_false]
      rw [ih]
      have e2 : (a :: r.map (·.1)).idxOf k = (r.map (·.1)).idxOf k + 1 := by
        rw [List.idxOf_cons, show (a == k) = false from by simpa using e]; rfl
      rw [e2]
      rfl
def keepG (f : γ → κ) (cs : List γ) : List (κ × γ) := cs.foldl (fun ps c => putG ps (f c) c) []
theorem keepG_snoc (f : γ → κ) (cs : List γ) (c : γ) : keepG f (cs ++ [c]) = putG (keepG f cs) (f c) c := by simp [keepG]
theorem foldl_nodup (f : γ → κ) : ∀ (cs : List γ) (ps : List (κ × γ)), (ps.map (·.1)).Nodup → ((cs.foldl (fun ps c => putG ps (f c) c) ps).map (·.1)).Nodup
  | [], _, h => h
  | c :: cs, ps, h => foldl_nodup f cs _ (putG_nodup h)
theorem keepG_nodup (f : γ → κ) (cs : List γ) : ((keepG f cs).map (·.1)).Nodup := foldl_nodup f cs [] (by simp)
theorem putG_len (ps : List (κ × β)) (k : κ) (v : β) : (putG ps k v).length ≤ ps.length + 1 := by
  unfold putG; split <;> simp
theorem foldl_len (f : γ → κ) : ∀ (cs : List γ) (ps : List (κ × γ)), (cs.foldl (fun ps c => putG ps (f c) c) ps).length ≤ ps.length + cs.length
  | [], _ => Nat.le_refl _
  | c :: cs, ps => by
    have h1 := foldl_len f cs (putG ps (f c) c)
    have h2 := putG_len ps (f c) c
    simp only [List.foldl_cons, List.length_cons]
    omega
theorem keepG_len (f : γ → κ) (cs : List γ) : (keepG f cs).length ≤ cs.length := by
  have := foldl_len f cs []
  simp only [List.length_nil, Nat.zero_add] at this
  exact this
end
def CellsT (h : Heap) (vs : Array Value) (cs : List Cell) : Prop :=
  vs.size = cs.length ∧ ∀ (i : Nat) v, vs[i]? = some v → ∃ c D T t1 t2 t3 t4 t5, cs[i]? = some c ∧ v = .ref D ∧ IsTup h D (cellT T c t4 t5) ∧ IsTup h T (tri c.1 t1 t2 t3)
abbrev pairT (n : Int) (t : Tok) (T : Addr) : Array Value := [Value.int n t, Value.ref T].toArray
/-- a list's items are pairs of an int and a colour -/
def KeptL (h₀ : Heap) (tl : List (Addr × Obj)) (vs : Array Value) (ks : List (Int × Cell)) : Prop :=
  vs.size = ks.length ∧ ∀ (i : Nat) v, vs[i]? = some v → ∃ k P T t0 t1 t2 t3, ks[i]? = some k ∧ v = .ref P ∧ (P, { cls := .type "tuple", data := .seq (pairT k.1 t0 T) }) ∈ tl ∧ IsTup h₀ T (tri k.2.1 t1 t2 t3)
theorem keptL_push {h₀ : Heap} {tl : List (Addr × Obj)} {vs : Array Value} {ks : List (Int × Cell)} {n : Int} {c : Cell} {P T : Addr} {t0 t1 t2 t3 : Tok} (h : KeptL h₀ tl vs ks) (hT : IsTup h₀ T (tri c.1 t1 t2 t3)) :
    KeptL h₀ ((P, { cls := .type "tuple", data := .seq (pairT n t0 T) }) :: tl) (vs.push (.ref P)) (ks ++ [(n, c)]) := by
  refine ⟨by simp [h.1], fun i v hv => ?_⟩
  rw [Array.getElem?_push] at hv
  split at hv
  · cases hv
    refine ⟨(n, c), P, T, t0, t1, t2, t3, ?_, rfl, .head _, hT⟩
    rw [List.getElem?_append_right (by rw [← h.1]; omega)]
    simp [*, h.1]
  · obtain ⟨c', P', T', u0, u1, u2, u3, e1, e2, e3, e4⟩ := h.2 i v hv
    have hi := (Array.getElem?_eq_some_iff.mp hv).1
    exact ⟨c', P', T', u0, u1, u2, u3, by rw [List.getElem?_append_left (by rw [← h.1]; exact hi)]; exact e1, e2, .tail _ e3, e4⟩
theorem keptL_set {h₀ : Heap} {tl : List (Addr × Obj)} {vs : Array Value} {ks : List (Int × Cell)} {n : Int} {c : Cell} {P T : Addr} {t0 t1 t2 t3 : Tok} {j : Nat} (h : KeptL h₀ tl vs ks) (hT : IsTup h₀ T (tri c.1 t1 t2 t3)) :
    KeptL h₀ ((P, { cls := .type "tuple", data := .seq (pairT n t0 T) }) :: tl) (vs.setIfInBounds j (.ref P)) (ks.set j (n, c)) := by
  refine ⟨by simp [h.1], fun i v hv => ?_⟩
  rw [Array.getElem?_setIfInBounds] at hv
  split at hv
  · rename_i e
    subst e
    split at hv
    · cases hv
      rename_i hj
      exact ⟨(n, c), P, T, t0, t1, t2, t3, by rw [List.getElem?_set_self (by rw [← h.1]; exact hj)], rfl, .head _, hT⟩
    · cases hv
  · rename_i e
    obtain ⟨c', P', T', u0, u1, u2, u3, e1, e2, e3, e4⟩ := h.2 i v hv
    exact ⟨c', P', T', u0, u1, u2, u3, by rw [List.getElem?_set_ne e]; exact e1, e2, .tail _ e3, e4⟩
def KpJ (h₀ : Heap) (ks : List (Int × Cell)) (m : Str → Option Value) (nx : List (Addr × Obj)) : Prop :=
  ∃ K H kv hv n1 n2 tl, nx = (K, listOf kv n1) :: (H, listOf (List.toArray hv) n2) :: tl ∧ IntsAre hv (ks.map (·.1)) ∧ KeptL h₀ tl kv ks ∧ H ≠ K ∧ (∀ p ∈ tl, p.1 ≠ K ∧ p.1 ≠ H) ∧ m (Str.ofString "hues") = some (.ref H) ∧ m (Str.ofString "kept") = some (.ref K)
/-- what _law_kept gives -/
def KeptOut (s : Shared) (ks : List (Int × Cell)) (h' : Heap) (v : Value) : Prop :=
  ∃ a vs n, v = .ref a ∧ h'.get? a = some (listOf vs n) ∧ vs.size = ks.length ∧ (∀ (i : Nat) v, vs[i]? = some v → ∃ k P T t0 t1 t2 t3, ks[i]? = some k ∧ v = .ref P ∧ IsTup h' P (pairT k.1 t0 T) ∧ IsTup h' T (tri k.2.1 t1 t2 t3)) ∧ s.heap.get? a = none
theorem inv_push3 {h₀ h' : Heap} {L K H P : Addr} {ok oh ok' oh' ok2 oh2 o1 : Obj} {tl : List (Addr × Obj)} {J : (Str → Option Value) → List (Addr × Obj) → Prop} {m' : Str → Option Value} {own : List (Addr × Obj)} {s₁ : Shared} {tk : Nat} (F : Fr h₀ L h' m') (N : News h₀ L h' ((P, o1) :: (K, ok) :: (H, oh) :: (tl ++ own)))
    (hx : ∀ p ∈ (K, ok') :: (H, oh') :: (tl ++ own), p.1 < P) (ho : OwnOff own (List.map (fun x => x.1) ((K, ok2) :: (H, oh2) :: tl)))
    (hj : P ≠ K → P ≠ H → J m' ((K, ok) :: (H, oh) :: (P, o1) :: tl)) : InvEndG h₀ L J own s₁ { s₁ with heap := h', toks := tk } := by
  refine InvEndG.intro F N (hj (Nat.ne_of_gt (hx _ (.head _))) (Nat.ne_of_gt (hx _ (.tail _ (.head _))))) (fun p hp b hb => ?_) (fun p hp => ?_) (fun p hp => .tail _ (.tail _ (.tail _ (List.mem_append_right _ hp))))
  · rcases List.mem_cons.mp hb with rfl | hb
    · exact ho p hp _ (.head _)
    · rcases List.mem_cons.mp hb with rfl | hb
      · exact ho p hp _ (.tail _ (.head _))
      · rcases List.mem_cons.mp hb with rfl | hb
        · exact Nat.ne_of_lt (hx p (.tail _ (.tail _ (List.mem_append_right _ hp))))
        · exact ho p hp b (.tail _ (.tail _ hb))
  · rcases List.mem_cons.mp hp with rfl | hp
    · exact .tail _ (.head _)
    · rcases List.mem_cons.mp hp with rfl | hp
      · exact .tail _ (.tail _ (.head _))
      · rcases List.mem_cons.mp hp with rfl | hp
        · exact .head _
        · exact .tail _ (.tail _ (.tail _ (List.mem_append_left _ hp)))
section
variable {prog : Program} {w : World} {A : Around} {E : Value → Shared → Prop} {s : Shared} {Q : Value → Shared → Prop} {h₀ : Heap} {L : Addr} {m : Str → Option Value} {news : List (Addr × Obj)}
theorem in_hues {H : Addr} {hv : List Value} {n : Nat} {ns : List Int} {k : Int} {t : Tok} (N : News h₀ L s.heap news) (hm : (H, listOf hv.toArray n) ∈ news) (hi : IntsAre hv ns) (h : Q (.bool (ns.any (· == k))) s) :
    wpAny (model prog w) A (compareOp .In (.int k t) (.ref H)) Q E s := in_list_ints ⟨_, (N _ hm).1, rfl, _, rfl⟩ hi h
theorem index_hues {H : Addr} {hv : List Value} {n : Nat} {ns : List Int} {k : Int} {t : Tok} (N : News h₀ L s.heap news) (hm : (H, listOf hv.toArray n) ∈ news) (hi : IntsAre hv ns) (hk : (ns.any (· == k)) = true) (hz : ns.length ≤ 4000)
    (h : Q (.int (ns.idxOf k : Nat) s.toks) { s with toks := s.toks + 1 }) : wpAny (model prog w) A (call (.builtin "list.index") [.ref H, .int k t]) Q E s := by
  have hlen := hi.length
  have hk : k ∈ ns := by
    obtain ⟨x, hx, e⟩ := List.any_eq_true.mp hk
    exact (of_decide_eq_true e : x = k) ▸ hx
  have hj : ns.idxOf k < ns.length := List.idxOf_lt_length_iff.mpr hk
  refine call_meets PySem.F.slot_list_index ⟨_, (N _ hm).1, rfl⟩ PySem.F.entry_list_index (PySem.F.args_list_index_2 _ _)
    (MeetsSeq.list_index H hv.toArray n (.int k t) (isInt k) (fun y hy => eq_isInt k t hi y (by simpa using hy)) (ns.idxOf k) (by simpa [hlen] using hj) (by omega) ?_ ?_) ⟨(N _ hm).1, h⟩
  · show isInt k hv[ns.idxOf k] = true
    rw [isInt_at k hi _ (by omega) hj]
    simpa using List.getElem_idxOf hj
  · intro j hjs hlt
    show isInt k hv[j] = false
    rw [isInt_at k hi j (by simpa using hjs) (by omega)]
    exact ne_of_lt_idxOf hlt _
theorem set_kept {P K H : Addr} {o1 o2 : Obj} {kv : Array Value} {n : Nat} {ns : List Int} {k : Int} {r : List (Addr × Obj)} {v : Value} {t : Tok} {Q : Unit → Shared → Prop} (F : Fr h₀ L s.heap m) (N : News h₀ L s.heap ((P, o1) :: (K, listOf kv n) :: (H, o2) :: r)) (hx : ∀ p ∈ (K, listOf kv n) :: (H, o2) :: r, p.1 < P) (hKH : H ≠ K) (hr : OwnOff r [K]) (hk : (ns.any (· == k)) = true) (hl : ns.length = kv.size) (hz : kv.size ≤ 4000)
    (h : ∀ h', Fr h₀ L h' m → News h₀ L h' ((P, o1) :: (K, listOf (kv.setIfInBounds (ns.idxOf k) v) n) :: (H, o2) :: r) → Q () { s with heap := h' }) : wpAny (model prog w) A (setItem (.ref K) (.int (ns.idxOf k : Nat) t) v) Q E s := by
  have hk : k ∈ ns := by
    obtain ⟨x, hx, e⟩ := List.any_eq_true.mp hk
    exact (of_decide_eq_true e : x = k) ▸ hx
  have hj : ns.idxOf k < ns.length := List.idxOf_lt_length_iff.mpr hk
  generalize ns.idxOf k = j at *
  have z := N (K, listOf kv n) (.tail _ (.head _))
  have e : ((j : Int)).toNat = j := by omega
  refine ki_setAt z.1 (by omega) (by omega) (by omega) (h _ (F.change (Heap.SameBut.update ..) z.2.1 z.2.2) (ki_turn (pre := [(P, o1)]) _ N (fun p hp => ?_) (fun p hp => ?_) ?_ ?_))
  · rw [List.mem_singleton.mp hp]; exact Nat.ne_of_gt (hx _ (.head _))
  · rcases List.mem_cons.mp hp with rfl | hp
    · exact hKH
    · exact hr p hp K (.head _)
  · show kv.setIfInBounds ((j : Int)).toNat v = _
    rw [e]
  · simp
theorem append_snd {K H : Addr} {o : Obj} {hv : List Value} {n : Nat} {r : List (Addr × Obj)} {v : Value} (F : Fr h₀ L s.heap m) (N : News h₀ L s.heap ((K, o) :: (H, listOf hv.toArray n) :: r)) (hKH : H ≠ K) (hr : OwnOff r [H]) (hz : hv.length ≤ 4000)
    (h : ∀ h', Fr h₀ L h' m → News h₀ L h' ((K, o) :: (H, listOf (hv ++ [v]).toArray (n + 1)) :: r) → Q .none { s with heap := h' }) : wpAny (model prog w) A (call (.builtin "list.append") [.ref H, v]) Q E s := by
  refine append_K F N (Upd.tail (fun e => hKH (show K = H from e).symm) (Upd.head fun p hp => hr p hp H (.head _))) (fun h' F' N' => h h' F' ?_) (by rw [sizeLine_eq, List.size_toArray]; omega)
  have e : hv.toArray.push v = (hv ++ [v]).toArray := by simp
  rw [← e]; exact N'
theorem append_mid {P K H : Addr} {o1 o2 : Obj} {kv : Array Value} {n : Nat} {r : List (Addr × Obj)} {v : Value} (F : Fr h₀ L s.heap m) (N : News h₀ L s.heap ((P, o1) :: (K, listOf kv n) :: (H, o2) :: r)) (hx : ∀ p ∈ (K, listOf kv n) :: (H, o2) :: r, p.1 < P) (hKH : H ≠ K) (hr : OwnOff r [K]) (hz : kv.size ≤ 4000)
    (h : ∀ h', Fr h₀ L h' m → News h₀ L h' ((P, o1) :: (K, listOf (kv.push v) (n + 1)) :: (H, o2) :: r) → Q .none { s with heap := h' }) : wpAny (model prog w) A (call (.builtin "list.append") [.ref K, v]) Q E s := by
  refine append_K F N (Upd.tail (Nat.ne_of_gt (hx _ (.head _))) (Upd.head fun p hp => ?_)) h (by rw [sizeLine_eq]; omega)
  rcases List.mem_cons.mp hp with rfl | hp
  · exact hKH
  · exact hr p hp K (.head _)
end
section
variable {w : World} {mean : ExcName → Option Value} {mg mb : Str → Option Value} {n : Nat} {f : Addr} {vals : List Value} {s : Shared}
    {dp un : Nat} {gd : Option (List Code)} {cn : Str} {cs : Scope} {L a : Addr} {ccd : Value} {cl : List (Str × Addr)} {outer : List Env} {A₀ : Around} {base h₀ : Heap} {m : Str → Option Value} {news : List (Addr × Obj)} {Q E : Value → Shared → Prop}
theorem use_int {x : Int} (D : Does w mean mg mb n f vals s (fun _ v => ∃ t, v = .int x t))
    (B : Below A₀ base outer h₀) (F : Fr h₀ L s.heap m) (X : (hd.heap_39 w.params).In h₀) (T : Top hd.view_39 (looseW hd.view_39 [Str.ofString "ONE_THIRD", Str.ofString "ONE_SIXTH", Str.ofString "TWO_THIRD"]) mean mg mb h₀)
    (N : News h₀ L s.heap news) (hk : cs.kind = .function) (hd : dp + n < recursionLimit) (hu : un + 8 * n < cLine)
    (h : ∀ t h' tk', Fr h₀ L h' m → News h₀ L h' news → Q (.int x t) { s with heap := h', toks := tk' }) :
    wpAny (model PySem.Challenge.rw_mq0234_01.row.prog w) (ktrTop dp un gd cn cs L a ccd cl outer) (call (.ref f) vals) Q E s := by
  refine use D B F X T N hk hd hu ?_
  rintro r h' tk' F' N' k ⟨t, rfl⟩
  exact h t h' tk' F' N'
end
end Mine
end
section
open PySem PySem.W PySem.Spec PySem.Calls PyProof.Rows
namespace Mine

def In7 (x : Int × Int × Int) : Prop := 0 ≤ lo3 x ∧ lo3 x ≤ hi3 x ∧ hi3 x < 7
def hueC (c : Cell) : Int := hueI c.1
theorem ints_snoc {vs : List Value} {ns : List Int} {n : Int} {t : Tok} (h : IntsAre vs ns) : IntsAre (vs ++ [.int n t]) (ns ++ [n]) := by
  induction h with
  | nil => exact .cons _ _ .nil
  | cons a b _ ih => exact .cons a b ih
theorem any_is {ns : List Int} {k : Int} : ns.any (· == k) = true ↔ k ∈ ns := by simp
set_option maxHeartbeats 4000000 in
theorem kept_does {w : World} {mean : ExcName → Option Value} {mg mb : Str → Option Value} {s : Shared} {l : Addr} {vs : Array Value} {cs : List Cell} (hl : s.heap.IsList l vs) (hc : CellsT s.heap vs cs) (h7 : ∀ c ∈ cs, In7 c.1) (hn : cs.length ≤ 63) :
    Does w mean mg mb 2 113 [.ref l] s (KeptOut s (keepG hueC cs)) := by
  k_with_none
  k_with "eval ListComp" => (k_dflt (k_here; (with_reducible refine' comp_open (by k_dflt (decide)) (by k_dflt (exact rfl)) (by k_dflt (decide)) ?_ (by k_dflt ((intro _; rfl)))); k_whole))
  k_with "eval Name" => (k_dflt (k_here; (with_reducible show wpAny _ _ (eval (Expr.Name _ _) (compEnv _ _ _)) _ _ _); (first | ((with_reducible refine' nameC_L (by k_dflt (k_asm)) (by k_dflt (exact rfl)) ?_ (by k_dflt (exact rfl)) (by k_dflt (exact rfl)) (by k_dflt (decide))); k_whole) | ((with_reducible refine' nameC_K (by k_dflt (k_asm)) (by k_dflt (k_asm)) (by k_dflt (k_asm)) (by k_dflt (k_is)) ?_ (by k_dflt (exact rfl)) (by k_dflt (exact rfl)) (by k_dflt (exact rfl)) (by k_dflt (decide))); k_whole) | ((with_reducible refine' nameC_B (by k_dflt (k_asm)) (by k_dflt (k_asm)) (by k_dflt (k_asm)) (by k_dflt (k_is)) (by k_dflt (boot_fast)) (by k_dflt (decide)) ?_ (by k_dflt (exact rfl)) (by k_dflt (exact rfl)) (by k_dflt (exact rfl)) (by k_dflt (exact rfl)) (by k_dflt (decide))); k_whole))))
  k_with "exec For Name Name cons nil" => (k_dflt (k_here; (with_reducible refine' for_open ?_ (by k_dflt ((intro _; rfl)))); k_whole))
  k_with "exec For Name Call cons nil" => (k_dflt (k_here; (with_reducible refine' for_open ?_ (by k_dflt ((intro _; rfl)))); k_whole))
  k_with "exec For Name Subscript cons nil" => (k_dflt (k_here; (with_reducible refine' for_open ?_ (by k_dflt ((intro _; rfl)))); k_whole))
  k_with "exec For Tuple Name cons nil" => (k_dflt (k_here; (with_reducible refine' for_open ?_ (by k_dflt ((intro _; rfl)))); k_whole))
  k_with "exec For Tuple Call cons nil" => (k_dflt (k_here; (with_reducible refine' for_open ?_ (by k_dflt ((intro _; rfl)))); k_whole))
  k_with "ite" => (k_dflt ((with_reducible show ite (_ = true) _ _); (with_reducible refine ite_split ?_ ?_) <;> intro _))
  k_with "ite" => (k_dflt (k_closed; (first | (with_reducible refine ite_neg (by k_dflt (decide)) ?_) | (with_reducible refine ite_pos (by k_dflt (decide)) ?_))))
  k_with "newTuple" => (k_dflt (k_here; (with_reducible refine' kup_newTuple (by k_dflt (k_asm)) (by k_dflt (k_asm)) ?_ (by k_dflt (exact Nat.le_of_ble_eq_true rfl))); intro DWq hWq FWq NWq l1Wq; (try k_sweep)))
  k_with "call ref" => (k_dflt (k_here; (with_reducible show wpAny _ _ (call (Value.ref 106) [Value.ref _]) _ _ _); (refine' use_int (hue_does (by k_dflt (exact Fr.tup (by k_asm) (by assumption))) (by k_dflt (assumption)) (by k_dflt (assumption)) (by k_dflt (assumption))) (by k_dflt (k_asm)) (by k_dflt (k_asm)) (by k_dflt (k_asm)) (by k_dflt (k_asm)) (by k_dflt (k_asm)) (by k_dflt (exact rfl)) (by k_dflt (((try dsimp only [ktrTop]); omega))) (by k_dflt (((try dsimp only [ktrTop]); omega))) ?_); k_whole; intro t9Wq h9Wq tk9Wq F9Wq N9Wq; (try dsimp only); (try k_sweep); (try k_fold)))
  k_with "compareOp In int ref" => (k_dflt (k_here; (with_reducible refine' in_hues (by k_dflt (k_asm)) (by k_dflt (exact .tail _ (.head _))) (by k_dflt (with_reducible assumption)) ?_); k_whole))
  k_with "call builtin:list.index" => (k_dflt (k_here; (with_reducible refine' index_hues (by k_dflt (k_asm)) (by k_dflt (exact .tail _ (.tail _ (.head _)))) (by k_dflt (with_reducible assumption)) (by k_dflt (with_reducible assumption)) (by k_dflt (with_reducible assumption)) ?_); k_whole))
  k_with "setItem ref int" => (k_dflt (k_here; (with_reducible refine' set_kept (by k_dflt (k_asm)) (by k_dflt (k_asm)) (by k_dflt (with_reducible assumption)) (by k_dflt (with_reducible assumption)) (by k_dflt (with_reducible assumption)) (by k_dflt (with_reducible assumption)) (by k_dflt (with_reducible assumption)) (by k_dflt (with_reducible assumption)) ?_); k_whole; intro hWq FWq NWq; (try k_sweep)))
  k_with "call builtin:list.append" => (k_dflt (k_here; (first | ((with_reducible refine' append_snd (by k_dflt (k_asm)) (by k_dflt (k_asm)) (by k_dflt (with_reducible assumption)) (by k_dflt (with_reducible assumption)) (by k_dflt (with_reducible assumption)) ?_); k_whole; intro hWq FWq NWq; (try k_sweep)) | ((with_reducible refine' append_mid (by k_dflt (k_asm)) (by k_dflt (k_asm)) (by k_dflt (with_reducible assumption)) (by k_dflt (with_reducible assumption)) (by k_dflt (with_reducible assumption)) (by k_dflt (with_reducible assumption)) ?_); k_whole; intro hWq FWq NWq; (try k_sweep)))))
  k_dflt (refine' enter (binds := [(Str.ofString "drawn", .ref l)]) ?k6 ?k7 ?k9 ?kB ?_ ?c2 ?c3 ?c4 ?c5; (case k6 => k_is); (case k7 => k_is); (case k9 => exact BindsTo.of_eq rfl); (case c5 => decide); (case kB => exact locs rfl); (case c2 => exact rfl); (case c3 => exact rfl); (case c4 => exact rfl); k_whole; intro dp' un' gd' cn' cs' L0' a' ccd' cl' outer' base' L' h' B' F' N' X' T' hd' hu'; (try dsimp only); (try k_fold))
  k_steps
  (with_reducible rename Fr _ _ _ _ => F8); (with_reducible rename News _ _ _ _ => N8)
  have N7 := news_tail N8
  refine loop_list (h₀ := s.heap) (fun i m nx => KpJ s.heap (keepG hueC (cs.take i)) m nx) (.inr ⟨_, _, _, rfl⟩) rfl (hl.at fun o e => F8.keep _ _ e) F8 N7 ?_ PassesOwn.never ?_ ?_ ?_
  · intro p hp e
    obtain ⟨o, ho, _⟩ := hl
    have := (N7 p hp).2.2
    rw [e, ho] at this; cases this
  · refine ⟨_, _, _, [], _, _, _, rfl, .nil, ⟨rfl, fun i v hv => by simp at hv⟩, ?_, fun _ h => (nomatch h), rfl, rfl⟩
    k_ne
  · rintro i v m1 nx h tk own hv hJ ho F1 N1
    obtain ⟨c, D, T, t1, t2, t3, t4, t5, e1, rfl, e3, e4⟩ := hc.2 i v hv
    have e5 : cs.take (i + 1) = cs.take i ++ [c] := by simp [List.take_add_one, e1]
    rw [e5, keepG_snoc]
    have hlen : (keepG hueC (cs.take i)).length ≤ 63 := by
      have h1 := keepG_len hueC (cs.take i)
      have h2 : (cs.take i).length ≤ cs.length := by rw [List.length_take]; omega
      omega
    have hnd := keepG_nodup hueC (cs.take i)
    generalize keepG hueC (cs.take i) = ks at hJ hlen hnd ⊢
    obtain ⟨K, H, kv, hv', n1, n2, tl, rfl, hI, hL, hKH, htl, q1, q2⟩ := hJ
    replace F1 := fr_canon F1 [(Str.ofString "hues", Value.ref H), (Str.ofString "kept", Value.ref K)] (by
      refine List.forall_mem_cons.mpr ⟨q1, List.forall_mem_cons.mpr ⟨q2, List.forall_mem_nil _⟩⟩)
    dsimp only [kstB, List.cons_append, List.nil_append, envOf] at F1 N1
    have hoffK : OwnOff (tl ++ own) [K] := fun p hp b hb => by
      rw [List.mem_singleton.mp hb]
      rcases List.mem_append.mp hp with hp | hp
      · exact (htl p hp).1
      · exact ho p hp K (.head _)
    have hoffH : OwnOff (tl ++ own) [H] := fun p hp b hb => by
      rw [List.mem_singleton.mp hb]
      rcases List.mem_append.mp hp with hp | hp
      · exact (htl p hp).2
      · exact ho p hp H (.tail _ (.head _))
    have hz : kv.size ≤ 4000 := by rw [hL.1]; omega
    have hz2 : hv'.length ≤ 4000 := by rw [ints_len hI, List.length_map]; omega
    have hz3 : (ks.map (·.1)).length ≤ 4000 := by rw [List.length_map]; omega
    have hz4 : (ks.map (·.1)).length = kv.size := by rw [List.length_map, hL.1]
    obtain ⟨b0, b1, b2⟩ := h7 c (List.mem_of_getElem? e1)
    have hD : IsTup s.heap D (cellT T c t4 t5) := e3
    have hT : IsTup s.heap T (tri c.1 t1 t2 t3) := e4
    clear F8 N8 N7 q1 q2 hc h7
    refine unpackN_ F1 N1 (F1.tup hD) rfl rfl rfl ?_
    clear F1 N1
    intro h1 F1 N1
    k_steps
    · (with_reducible rename Fr _ _ _ _ => F2); (with_reducible rename News _ _ _ _ => N2)
      have hk : hueI c.1 ∈ ks.map (·.1) := any_is.mp (by assumption)
      refine inv_push3 F2 N2 (by with_reducible assumption) ho ?_
      intro d1 d2
      refine ⟨_, _, _, _, _, _, _, rfl, ?_, ?_, hKH, fun p hp => ?_, rfl, rfl⟩
      · show IntsAre hv' ((putG ks (hueI c.1) c).map (·.1))
        rw [putG_keys_in hk]; exact hI
      · show KeptL s.heap _ _ (putG ks (hueI c.1) c)
        rw [putG_in hnd hk]
        exact keptL_set hL hT
      · rcases List.mem_cons.mp hp with rfl | hp
        · exact ⟨d1, d2⟩
        · exact htl p hp
    · (with_reducible rename Fr _ _ _ _ => F2); (with_reducible rename News _ _ _ _ => N2)
      have hk : hueI c.1 ∉ ks.map (·.1) := fun q => by
        have h9 : ((ks.map (·.1)).any (· == hueI c.1)) = false := by assumption
        rw [any_is.mpr q] at h9; cases h9
      refine inv_push3 F2 N2 (by with_reducible assumption) ho ?_
      intro d1 d2
      refine ⟨_, _, _, _, _, _, _, rfl, ?_, ?_, hKH, fun p hp => ?_, rfl, rfl⟩
      · show IntsAre _ ((putG ks (hueI c.1) c).map (·.1))
        rw [putG_out hk, List.map_append]
        exact ints_snoc hI
      · show KeptL s.heap _ _ (putG ks (hueI c.1) c)
        rw [putG_out hk]
        exact keptL_push hL hT
      · rcases List.mem_cons.mp hp with rfl | hp
        · exact ⟨d1, d2⟩
        · exact htl p hp
  · intro h tk m1 nx F1 N1 hJ
    rw [hc.1, List.take_length] at hJ
    obtain ⟨K, H, kv, hv', n1, n2, tl, rfl, hI, hL, hKH, htl, q1, q2⟩ := hJ
    replace F1 := fr_canon F1 [(Str.ofString "kept", Value.ref K)] (by
      refine List.forall_mem_cons.mpr ⟨q2, List.forall_mem_nil _⟩)
    dsimp only [kstB, envOf] at F1 N1
    clear F8 N8 N7 q1 q2 hc h7
    k_steps
    refine ends_val F1 ⟨K, kv, n1, rfl, (N1 _ (.head _)).1, hL.1, fun i v hv => ?_, (N1 _ (.head _)).2.2⟩
    obtain ⟨k, P, T, t0, t1, t2, t3, e1, e2, e3, e4⟩ := hL.2 i v hv
    exact ⟨k, P, T, t0, t1, t2, t3, e1, e2, ⟨_, (N1 _ (.tail _ (.tail _ e3))).1, rfl, 0, rfl⟩, F1.tup e4⟩
end Mine
end
section
open PySem PySem.W PySem.Spec PySem.Calls PyProof.Rows
namespace Mine
/-- an object that stands since the base, or is on the ledger -/
def At (h₀ : Heap) (r : List (Addr × Obj)) (a : Addr) (o : Obj) : Prop := (a, o) ∈ r ∨ h₀.get? a = some o
section
variable {h₀ h : Heap} {L : Addr} {m : Str → Option Value} {r news : List (Addr × Obj)} {a : Addr} {o : Obj}
theorem At.get (x : At h₀ r a o) (F : Fr h₀ L h m) (N : News h₀ L h r) : h.get? a = some o := x.elim (fun q => (N _ q).1) (fun q => F.keep _ _ q)
theorem At.mono {r' : List (Addr × Obj)} (x : At h₀ r a o) (s : ∀ p ∈ r, p ∈ r') : At h₀ r' a o := x.imp (fun q => s _ q) id
theorem grab (F : Fr h₀ L h m) (N : News h₀ L h news) : ∃ r, News h₀ L h r ∧ (∀ p ∈ news, p ∈ r) ∧ ∀ a o, h.get? a = some o → a ≠ L → At h₀ r a o := by
  have hL : L ∉ (List.range h.objs.size).filter (fun b => b != L) := fun q => by
    have := (List.mem_filter.mp q).2
    simp at this
  have all : ∀ a o, h.get? a = some o → a ≠ L → h₀.get? a = none → (a, o) ∈ ownOf h₀ ((List.range h.objs.size).filter (fun b => b != L)) h := fun a o e hne hn =>
    mem_ownOf (List.mem_filter.mpr ⟨List.mem_range.mpr (Heap.lt_size e), by simpa using hne⟩) hn e
  refine ⟨_, news_ownOf hL, fun p hp => all p.1 p.2 (N p hp).1 (N p hp).2.1 (N p hp).2.2, fun a o e hne => ?_⟩
  cases q : h₀.get? a with
  | none => exact .inl (all a o e hne q)
  | some o' =>
    have := F.keep _ _ q
    rw [e] at this; cases this
    exact .inr q
theorem not_ns {cls : Value} {its : Array Value} {n : Nat} {dd sl} (F : Fr h₀ L h m) (e : h.get? a = some ⟨cls, dd, .seq its n, sl⟩) : a ≠ L := fun q => by
  obtain ⟨o', es, ep, ho, hd, _⟩ := F.ns
  subst q
  rw [e] at ho; cases ho
  cases hd
end
section
variable {w : World} {mean : ExcName → Option Value} {mg mb : Str → Option Value} {n : Nat} {f : Addr} {vals : List Value} {s : Shared} {Post : Heap → Value → Prop}
    {dp un : Nat} {gd : Option (List Code)} {cn : Str} {cs : Scope} {L C a : Addr} {ccd : Value} {cl : List (Str × Addr)} {outer : List Env} {A₀ : Around} {base h₀ g : Heap} {m m₀ : Str → Option Value} {news : List (Addr × Obj)} {Q E : Value → Shared → Prop}
/-- a call from within a comprehension -/
theorem useC (D : Does w mean mg mb n f vals s Post)
    (B : Below A₀ base outer h₀) (F : Fr g C s.heap m) (F₀ : Fr h₀ L g m₀) (X : (hd.heap_39 w.params).In h₀) (T : Top hd.view_39 (looseW hd.view_39 [Str.ofString "ONE_THIRD", Str.ofString "ONE_SIXTH", Str.ofString "TWO_THIRD"]) mean mg mb h₀)
    (N : News g C s.heap news) (hk : cs.kind = .function) (hd : dp + n < recursionLimit) (hu : un + 8 * n < cLine)
    (h : ∀ r h' tk', Fr g C h' m → News g C h' news → (∀ b o, s.heap.get? b = some o → h'.get? b = some o) → Post h' r → Q r { s with heap := h', toks := tk' }) :
    wpAny (model PySem.Challenge.rw_mq0234_01.row.prog w) (ktrTop dp un gd cn cs L a ccd cl outer) (call (.ref f) vals) Q E s := by
  refine wpAny_mono (D _ (Can.mk B (fr_grow F₀ F.keep) X T hk hd hu)) ?_ (fun _ _ x => x.elim)
  rintro r s' ⟨h', tk', rfl, k, p⟩
  exact h r h' tk' (fr_grow F k) (news_grow N k) k p
end
section
variable {prog : Program} {w : World} {A : Around} {s : Shared} {env : Env} {Q E : Value → Shared → Prop} {elt iter : Expr} {scope : Scope} {pos : Pos}
theorem comp_listT {x y z : Str} {px py pz pt : Pos} {kk : Nat} {l : Addr} {items : Array Value} (R : Nat → Value → Heap → Prop) (hh : A.handled = none) (ht : s.heap.IsList l items) (hsz : items.size ≤ sizeLine)
    (htup : ∀ (i : Nat) v, items[i]? = some v → ∃ T a b c, v = .ref T ∧ IsTup s.heap T #[a, b, c])
    (hcell : ∀ y ∈ scope.names, y.2 ≠ .cell) (hkind : scope.kind = .function) (hx : scope.names.lookup x = some .local) (hy : scope.names.lookup y = some .local) (hz : scope.names.lookup z = some .local) (hR : ∀ i y h h', R i y h → TupKeep h h' → R i y h')
    (turn : ∀ (C : Addr) (i : Nat) (T : Addr) (a b c : Value) (m₁ : Str → Option Value) (h : Heap) (tk : Nat) (own : List (Addr × Obj)) (E' : Value → Shared → Prop), items[i]? = some (.ref T) → IsTup s.heap T #[a, b, c] → Fr s.heap C h (fun n => if n = z then some c else if n = y then some b else if n = x then some a else m₁ n) → News s.heap C h own →
      wpAny (model prog w) A (eval elt (compEnv scope C env)) (EltEnd s.heap C own (R i) s) E' { s with heap := h, toks := tk })
    (done : ∀ D h tk ys, s.heap.get? D = none → (∀ b o, s.heap.get? b = some o → h.get? b = some o) → h.PlainList D ys → ys.size = items.size → (∀ i y, ys[i]? = some y → R i y h) → Q (.ref D) { s with heap := h, toks := tk }) :
    wpAny (model prog w) A (pyIter (.ref l)) (fun it s₂ => CompT prog w A env elt (.Tuple [.Name x px, .Name y py, .Name z pz] kk pt) iter scope pos Q E it s₂) E s := by
  obtain ⟨o, ho, r⟩ := id ht
  have hne : l ≠ s.heap.objs.size := Nat.ne_of_lt (Heap.lt_size ho)
  refine wpAny_pyIter_list ht ?_
  refine comp_go (g := s.heap) (iter_listT hh s.heap.objs.size l hne items) R hR (fun b o e => Heap.get?_push_of_some _ e) (by rw [Heap.size_push]; exact Nat.le_succ _) (fun b hb => by rw [List.mem_singleton.mp hb]; cases e : s.heap.get? s.heap.objs.size with | none => rfl | some o => exact absurd (Heap.lt_size e) (Nat.lt_irrefl _))
    (fun b hb => by
      rw [Heap.size_push]
      rcases List.mem_cons.mp hb with rfl | hb
      · exact Nat.lt_succ_self _
      · rw [List.mem_singleton.mp hb]; exact Nat.lt_succ_of_lt (Heap.lt_size ho)) ⟨⟨_, Heap.get?_push_size _ rfl, rfl, rfl⟩, ⟨o, Heap.get?_push_of_some _ ho, r⟩⟩ hsz hcell hkind ?_ ?_
  · intro C i v m₁ h tk own E' _ hP F N
    obtain ⟨T, a, b, c, rfl, hT⟩ := htup i v hP
    exact assign_comp3 (s := { s with heap := h, toks := tk }) hh F N (F.tup hT) hkind hx hy hz fun h' tk' F' N' => turn C i T a b c m₁ h' tk' own E' hP hT F' N'
  · exact done
end
end Mine
end
section
open PySem PySem.W PySem.Spec PySem.Calls PyProof.Rows PySem.SeqAt
namespace Mine
def Stop (P : Prop) : Prop := P
theorem Stop.intro {P : Prop} (h : Stop P) : P := h
theorem Stop.go {P : Prop} (h : P) : Stop P := h
def TupR (h₀ : Heap) (r : List (Addr × Obj)) (a : Addr) (its : Array Value) : Prop := ∃ o, At h₀ r a o ∧ o.cls = .type "tuple" ∧ ∃ n, o.data = .seq its n
def ListR (h₀ : Heap) (r : List (Addr × Obj)) (a : Addr) (its : Array Value) : Prop := ∃ o, At h₀ r a o ∧ o.cls = .type "list" ∧ ∃ n, o.data = .seq its n
section
variable {h₀ h : Heap} {L : Addr} {m : Str → Option Value} {r r' news : List (Addr × Obj)} {a : Addr} {its : Array Value}
theorem TupR.get (x : TupR h₀ r a its) (F : Fr h₀ L h m) (N : News h₀ L h r) : IsTup h a its := let ⟨o, e, c, n, d⟩ := x; ⟨o, e.get F N, c, n, d⟩
theorem ListR.get (x : ListR h₀ r a its) (F : Fr h₀ L h m) (N : News h₀ L h r) : h.IsList a its := let ⟨o, e, c, n, d⟩ := x; ⟨o, e.get F N, c, n, d⟩
theorem TupR.mono (x : TupR h₀ r a its) (s : ∀ p ∈ r, p ∈ r') : TupR h₀ r' a its := let ⟨o, e, c, d⟩ := x; ⟨o, e.mono s, c, d⟩
theorem ListR.mono (x : ListR h₀ r a its) (s : ∀ p ∈ r, p ∈ r') : ListR h₀ r' a its := let ⟨o, e, c, d⟩ := x; ⟨o, e.mono s, c, d⟩
theorem seq_ne {o : Obj} {n : Nat} (F : Fr h₀ L h m) (e : h.get? a = some o) (d : o.data = .seq its n) : a ≠ L := fun q => by
  obtain ⟨o', es, ep, ho, hd, _⟩ := F.ns
  subst q
  rw [e] at ho; cases ho
  rw [d] at hd; cases hd
theorem TupR.of (g : ∀ a o, h.get? a = some o → a ≠ L → At h₀ r a o) (F : Fr h₀ L h m) (t : IsTup h a its) : TupR h₀ r a its := let ⟨o, e, c, n, d⟩ := t; ⟨o, g a o e (seq_ne F e d), c, n, d⟩
theorem ListR.of (g : ∀ a o, h.get? a = some o → a ≠ L → At h₀ r a o) (F : Fr h₀ L h m) (t : h.IsList a its) : ListR h₀ r a its := let ⟨o, e, c, n, d⟩ := t; ⟨o, g a o e (seq_ne F e d), c, n, d⟩
/-- the cells, each a tuple of a colour's tuple and two ints -/
def CellsR (h₀ : Heap) (r : List (Addr × Obj)) (vs : Array Value) (cs : List Cell) : Prop :=
  vs.size = cs.length ∧ ∀ (i : Nat) v, vs[i]? = some v → ∃ c D T t1 t2 t3 t4 t5, cs[i]? = some c ∧ v = .ref D ∧ TupR h₀ r D (cellT T c t4 t5) ∧ TupR h₀ r T (tri c.1 t1 t2 t3)
theorem CellsR.mono {vs : Array Value} {cs : List Cell} (x : CellsR h₀ r vs cs) (s : ∀ p ∈ r, p ∈ r') : CellsR h₀ r' vs cs :=
  ⟨x.1, fun i v hv => let ⟨c, D, T, t1, t2, t3, t4, t5, e1, e2, e3, e4⟩ := x.2 i v hv; ⟨c, D, T, t1, t2, t3, t4, t5, e1, e2, e3.mono s, e4.mono s⟩⟩
theorem CellsR.at {vs : Array Value} {cs : List Cell} (x : CellsR h₀ r vs cs) (F : Fr h₀ L h m) (N : News h₀ L h r) : CellsT h vs cs :=
  ⟨x.1, fun i v hv => let ⟨c, D, T, t1, t2, t3, t4, t5, e1, e2, e3, e4⟩ := x.2 i v hv; ⟨c, D, T, t1, t2, t3, t4, t5, e1, e2, e3.get F N, e4.get F N⟩⟩
def KeptR (h₀ : Heap) (r : List (Addr × Obj)) (vs : Array Value) (ks : List (Int × Int × Int × Int)) : Prop :=
  vs.size = ks.length ∧ ∀ (i : Nat) v, vs[i]? = some v → ∃ k P T t0 t1 t2 t3, ks[i]? = some k ∧ v = .ref P ∧ TupR h₀ r P (pairT k.1 t0 T) ∧ TupR h₀ r T (tri k.2 t1 t2 t3)
theorem KeptR.mono {vs : Array Value} {ks : List (Int × Int × Int × Int)} (x : KeptR h₀ r vs ks) (s : ∀ p ∈ r, p ∈ r') : KeptR h₀ r' vs ks :=
  ⟨x.1, fun i v hv => let ⟨k, P, T, t0, t1, t2, t3, e1, e2, e3, e4⟩ := x.2 i v hv; ⟨k, P, T, t0, t1, t2, t3, e1, e2, e3.mono s, e4.mono s⟩⟩
def TrisR (h₀ : Heap) (r : List (Addr × Obj)) (vs : Array Value) (ts : List (Int × Int × Int)) : Prop :=
  vs.size = ts.length ∧ ∀ (i : Nat) v, vs[i]? = some v → ∃ c T t1 t2 t3, ts[i]? = some c ∧ v = .ref T ∧ TupR h₀ r T (tri c t1 t2 t3)
theorem TrisR.mono {vs : Array Value} {ts : List (Int × Int × Int)} (x : TrisR h₀ r vs ts) (s : ∀ p ∈ r, p ∈ r') : TrisR h₀ r' vs ts :=
  ⟨x.1, fun i v hv => let ⟨c, T, t1, t2, t3, e1, e2, e3⟩ := x.2 i v hv; ⟨c, T, t1, t2, t3, e1, e2, e3.mono s⟩⟩
theorem isTup_of {o : Obj} {n : Nat} (e : h.get? a = some o) (c : o.cls = .type "tuple") (d : o.data = .seq its n) : IsTup h a its := ⟨o, e, c, n, d⟩
end
section
variable {w : World} {mean : ExcName → Option Value} {mg mb : Str → Option Value} {n : Nat} {f : Addr} {vals : List Value} {s : Shared}
    {dp un : Nat} {gd : Option (List Code)} {cn : Str} {cs : Scope} {L a : Addr} {ccd : Value} {cl : List (Str × Addr)} {outer : List Env} {A₀ : Around} {base h₀ : Heap} {m : Str → Option Value} {news : List (Addr × Obj)} {Q E : Value → Shared → Prop}
theorem use_cells {zs : List Cell} (D : Does w mean mg mb n f vals s (CellOut s zs))
    (B : Below A₀ base outer h₀) (F : Fr h₀ L s.heap m) (X : (hd.heap_39 w.params).In h₀) (T : Top hd.view_39 (looseW hd.view_39 [Str.ofString "ONE_THIRD", Str.ofString "ONE_SIXTH", Str.ofString "TWO_THIRD"]) mean mg mb h₀)
    (N : News h₀ L s.heap news) (hk : cs.kind = .function) (hd : dp + n < recursionLimit) (hu : un + 8 * n < cLine)
    (h : ∀ b vs r h' tk', Fr h₀ L h' m → News h₀ L h' r → (∀ p ∈ news, p ∈ r) → ListR h₀ r b vs → CellsR h₀ r vs zs → Q (.ref b) { s with heap := h', toks := tk' }) :
    wpAny (model PySem.Challenge.rw_mq0234_01.row.prog w) (ktrTop dp un gd cn cs L a ccd cl outer) (call (.ref f) vals) Q E s := by
  refine use D B F X T N hk hd hu ?_
  rintro r h' tk' F' N' k ⟨b, vs, nn, rfl, e, hc, hn⟩
  obtain ⟨r, N2, hs, g⟩ := grab F' N'
  refine h b vs r h' tk' F' N2 hs (.of g F' ⟨_, e, rfl, _, rfl⟩) ⟨hc.1, fun i v hv => ?_⟩
  obtain ⟨c, D, T, t1, t2, t3, t4, t5, e1, e2, e3, e4⟩ := hc.2 i v hv
  exact ⟨c, D, T, t1, t2, t3, t4, t5, e1, e2, .of g F' ⟨_, e3, rfl, 0, rfl⟩, .of g F' ⟨_, e4, rfl, 0, rfl⟩⟩
theorem use_kept {ks : List (Int × Cell)} (D : Does w mean mg mb n f vals s (KeptOut s ks))
    (B : Below A₀ base outer h₀) (F : Fr h₀ L s.heap m) (X : (hd.heap_39 w.params).In h₀) (T : Top hd.view_39 (looseW hd.view_39 [Str.ofString "ONE_THIRD", Str.ofString "ONE_SIXTH", Str.ofString "TWO_THIRD"]) mean mg mb h₀)
    (N : News h₀ L s.heap news) (hk : cs.kind = .function) (hd : dp + n < recursionLimit) (hu : un + 8 * n < cLine)
    (h : ∀ b vs r h' tk', Fr h₀ L h' m → News h₀ L h' r → (∀ p ∈ news, p ∈ r) → ListR h₀ r b vs → KeptR h₀ r vs (ks.map fun k => (k.1, k.2.1)) → Q (.ref b) { s with heap := h', toks := tk' }) :
    wpAny (model PySem.Challenge.rw_mq0234_01.row.prog w) (ktrTop dp un gd cn cs L a ccd cl outer) (call (.ref f) vals) Q E s := by
  refine use D B F X T N hk hd hu ?_
  rintro r h' tk' F' N' k ⟨b, vs, nn, rfl, e, h1, hc, hn⟩
  obtain ⟨r, N2, hs, g⟩ := grab F' N'
  refine h b vs r h' tk' F' N2 hs (.of g F' ⟨_, e, rfl, _, rfl⟩) ⟨by rw [List.length_map]; exact h1, fun i v hv => ?_⟩
  obtain ⟨k, P, T, t0, t1, t2, t3, e1, e2, e3, e4⟩ := hc i v hv
  exact ⟨(k.1, k.2.1), P, T, t0, t1, t2, t3, by rw [List.getElem?_map, e1]; rfl, e2, .of g F' e3, .of g F' e4⟩
theorem use_tris {ts : List (Int × Int × Int)} (D : Does w mean mg mb n f vals s (TriOut s ts))
    (B : Below A₀ base outer h₀) (F : Fr h₀ L s.heap m) (X : (hd.heap_39 w.params).In h₀) (T : Top hd.view_39 (looseW hd.view_39 [Str.ofString "ONE_THIRD", Str.ofString "ONE_SIXTH", Str.ofString "TWO_THIRD"]) mean mg mb h₀)
    (N : News h₀ L s.heap news) (hk : cs.kind = .function) (hd : dp + n < recursionLimit) (hu : un + 8 * n < cLine)
    (h : ∀ b vs r h' tk', Fr h₀ L h' m → News h₀ L h' r → (∀ p ∈ news, p ∈ r) → ListR h₀ r b vs → TrisR h₀ r vs ts → Q (.ref b) { s with heap := h', toks := tk' }) :
    wpAny (model PySem.Challenge.rw_mq0234_01.row.prog w) (ktrTop dp un gd cn cs L a ccd cl outer) (call (.ref f) vals) Q E s := by
  refine use D B F X T N hk hd hu ?_
  rintro r h' tk' F' N' k ⟨b, vs, nn, rfl, e, h1, hc, hn⟩
  obtain ⟨r, N2, hs, g⟩ := grab F' N'
  refine h b vs r h' tk' F' N2 hs (.of g F' ⟨_, e, rfl, _, rfl⟩) ⟨h1, fun i v hv => ?_⟩
  obtain ⟨c, T, t1, t2, t3, e1, e2, e3, e4⟩ := hc i v hv
  exact ⟨c, T, t1, t2, t3, e1, e2, .of g F' ⟨_, e3, rfl, 0, rfl⟩⟩
end
theorem eqAt_refs {A : Around} {s : Shared} {l b : Addr} (h : RcAt A s (.ref l) (.ref b) true) : EqAt A s (.ref l) (.ref b) true := by
  by_cases e : l = b
  · subst e; exact EqAt.same _
  · exact EqAt.of_refs e h
theorem all_true (n : Nat) : (List.range n).all (fun _ => true) = true := by simp
theorem rc_pair {A : Around} {s : Shared} {P P' T T' : Addr} {n : Int} {c : Int × Int × Int} {t0 t1 t2 t3 u0 u1 u2 u3 : Tok} (hP : IsTup s.heap P (pairT n t0 T)) (hP' : IsTup s.heap P' (pairT n u0 T')) (hT : IsTup s.heap T (tri c t1 t2 t3)) (hT' : IsTup s.heap T' (tri c u1 u2 u3)) (hu : A.units + 8 < cLine) : RcAt A s (.ref P) (.ref P') true := by
  have := RcAt.tuples (A := A) (s := s) (e := fun _ => true) hP hP' (by omega) (fun j h1 h2 => by
    have hj : j < 2 := h1
    have : j = 0 ∨ j = 1 := by omega
    rcases this with rfl | rfl
    · have := EqAt.int_int (A := A.in1) (s := s) n t0 n u0
      rw [beq_self_eq_true] at this
      exact this
    · refine eqAt_refs ?_
      have := rc3 (A := A.in1) hT hT' (by show A.units + 1 < cLine; omega)
      rw [decide_eq_true rfl] at this
      exact this)
  exact this
/-- two lists of like pairs are equal -/
theorem eq_kept {prog : Program} {w : World} {A : Around} {E : Value → Shared → Prop} {s : Shared} {Q : Value → Shared → Prop} {h₀ : Heap} {L a b : Addr} {m : Str → Option Value} {r : List (Addr × Obj)} {xs ys : Array Value} {ks : List (Int × Int × Int × Int)} (F : Fr h₀ L s.heap m) (N : News h₀ L s.heap r)
    (ha : ListR h₀ r a xs) (hb : ListR h₀ r b ys) (hx : KeptR h₀ r xs ks) (hy : KeptR h₀ r ys ks) (hu : A.units + 10 < cLine) (h : Q (.bool true) s) : wpAny (model prog w) A (compareOp .Eq (.ref a) (.ref b)) Q E s := by
  refine eq_listAt (e := fun _ => true) (ha.get F N) (hb.get F N) (by rw [hx.1, hy.1]) (by omega) (fun j h1 h2 => ?_) (by rw [all_true]; exact h)
  obtain ⟨k, P, T, t0, t1, t2, t3, e1, e2, e3, e4⟩ := hx.2 j _ (Array.getElem?_eq_getElem h1)
  obtain ⟨k', P', T', u0, u1, u2, u3, f1, f2, f3, f4⟩ := hy.2 j _ (Array.getElem?_eq_getElem h2)
  rw [e1] at f1; cases f1
  rw [e2, f2]
  exact eqAt_refs (rc_pair (e3.get F N) (f3.get F N) (e4.get F N) (f4.get F N) (by show A.units + 1 + 8 < cLine; omega))
end Mine
end
section
open PySem PySem.W PySem.Spec PySem.Calls PyProof.Rows PySem.SeqAt
namespace Mine
section
variable {w : World} {mean : ExcName → Option Value} {mg mb : Str → Option Value} {n : Nat} {f : Addr} {vals : List Value} {s : Shared}
    {dp un : Nat} {gd : Option (List Code)} {cn : Str} {cs : Scope} {L C a : Addr} {ccd : Value} {cl : List (Str × Addr)} {outer : List Env} {A₀ : Around} {base h₀ g : Heap} {m m₀ : Str → Option Value} {news : List (Addr × Obj)} {Q E : Value → Shared → Prop}
theorem useC_str {k : Nat} {x : Str} (D : Does w mean mg mb n f vals s (StrOut k x))
    (B : Below A₀ base outer h₀) (F : Fr g C s.heap m) (F₀ : Fr h₀ L g m₀) (X : (hd.heap_39 w.params).In h₀) (T : Top hd.view_39 (looseW hd.view_39 [Str.ofString "ONE_THIRD", Str.ofString "ONE_SIXTH", Str.ofString "TWO_THIRD"]) mean mg mb h₀)
    (N : News g C s.heap news) (hk : cs.kind = .function) (hd : dp + n < recursionLimit) (hu : un + 8 * n < cLine)
    (h : ∀ t h' tk', Fr g C h' m → News g C h' news → Short k x → Q (.str x t) { s with heap := h', toks := tk' }) :
    wpAny (model PySem.Challenge.rw_mq0234_01.row.prog w) (ktrTop dp un gd cn cs L a ccd cl outer) (call (.ref f) vals) Q E s := by
  refine useC D B F F₀ X T N hk hd hu ?_
  rintro r h' tk' F' N' _ ⟨⟨t, rfl⟩, hs⟩
  exact h t h' tk' F' N' hs
theorem useC_tup3F {x : UInt64 × UInt64 × UInt64} (D : Does w mean mg mb n f vals s (Tup3F s x))
    (B : Below A₀ base outer h₀) (F : Fr g C s.heap m) (F₀ : Fr h₀ L g m₀) (X : (hd.heap_39 w.params).In h₀) (T : Top hd.view_39 (looseW hd.view_39 [Str.ofString "ONE_THIRD", Str.ofString "ONE_SIXTH", Str.ofString "TWO_THIRD"]) mean mg mb h₀)
    (N : News g C s.heap news) (hk : cs.kind = .function) (hd : dp + n < recursionLimit) (hu : un + 8 * n < cLine)
    (h : ∀ b t1 t2 t3 h' tk', Fr g C h' m → News g C h' ((b, { cls := .type "tuple", data := .seq #[.float x.1 t1, .float x.2.1 t2, .float x.2.2 t3] }) :: news) → Q (.ref b) { s with heap := h', toks := tk' }) :
    wpAny (model PySem.Challenge.rw_mq0234_01.row.prog w) (ktrTop dp un gd cn cs L a ccd cl outer) (call (.ref f) vals) Q E s := by
  refine useC D B F F₀ X T N hk hd hu ?_
  rintro r h' tk' F' N' k ⟨b, t1, t2, t3, rfl, e, hn⟩
  exact h b t1 t2 t3 h' tk' F' (news_add F N k e hn)
theorem useC_tup3I {x : Int × Int × Int} (D : Does w mean mg mb n f vals s (Tup3I s x))
    (B : Below A₀ base outer h₀) (F : Fr g C s.heap m) (F₀ : Fr h₀ L g m₀) (X : (hd.heap_39 w.params).In h₀) (T : Top hd.view_39 (looseW hd.view_39 [Str.ofString "ONE_THIRD", Str.ofString "ONE_SIXTH", Str.ofString "TWO_THIRD"]) mean mg mb h₀)
    (N : News g C s.heap news) (hk : cs.kind = .function) (hd : dp + n < recursionLimit) (hu : un + 8 * n < cLine)
    (h : ∀ b t1 t2 t3 h' tk', Fr g C h' m → News g C h' ((b, { cls := .type "tuple", data := .seq #[.int x.1 t1, .int x.2.1 t2, .int x.2.2 t3] }) :: news) → Q (.ref b) { s with heap := h', toks := tk' }) :
    wpAny (model PySem.Challenge.rw_mq0234_01.row.prog w) (ktrTop dp un gd cn cs L a ccd cl outer) (call (.ref f) vals) Q E s := by
  refine useC D B F F₀ X T N hk hd hu ?_
  rintro r h' tk' F' N' k ⟨b, t1, t2, t3, rfl, e, hn⟩
  exact h b t1 t2 t3 h' tk' F' (news_add F N k e hn)
end
def lightX (c : Cell) : Str := itemT (lightI c.1).1 (lightI c.1).2.1 (lightI c.1).2.2 c.2.1 c.2.2
def valueX (c : Cell) : Str := itemT (valueI c.1).1 (valueI c.1).2.1 (valueI c.1).2.2 c.2.1 c.2.2
/-- what _law_read asks of a list of items, and what it is to tell -/
structure Reads3 (xs : List Str) (ts : List (Int × Int × Int)) (cut : Str → Str × Str) : Prop where
  weigh : Weigh 4000 xs
  cuts : ∀ y ∈ httpL (Txt.join (Str.ofString ",") xs), Short 4000 y ∧ Cut y (cut y).1 (cut y).2 ∧ 0 < (cut y).2.length ∧ Short 4000 (cut y).2
  few : (httpL (Txt.join (Str.ofString ",") xs)).length ≤ 4000
  len : (kvs1 cut (httpL (Txt.join (Str.ofString ",") xs))).length = ts.length
  told : ∀ (i : Nat) p, (kvs1 cut (httpL (Txt.join (Str.ofString ",") xs)))[i]? = some p → ∃ t, ts[i]? = some t ∧ Told p t
def hlsBack (t : Int × Int × Int) : UInt64 × UInt64 × UInt64 := rgbHls (frac t.1 360) (frac t.2.1 12) (frac t.2.2 60)
def hsvBack (t : Int × Int × Int) : UInt64 × UInt64 × UInt64 := rgbHsv (frac t.1 360) (frac t.2.1 60) (frac t.2.2 6)
def lightBack (x : Int × Int × Int) : Bool := !Float64.isInf (frac (lightI x).1 360) && !Float64.isInf (frac (lightI x).2.1 12) && !Float64.isInf (frac (lightI x).2.2 60) && wholeOk (hlsBack (lightI x)) && decide (whole3 (hlsBack (lightI x)) = x) && decide ((lightI x).1 = hueI x)
def valueBack (x : Int × Int × Int) : Bool := !Float64.isInf (frac (valueI x).1 360) && !Float64.isInf (frac (valueI x).2.1 60) && !Float64.isInf (frac (valueI x).2.2 6) && rgbHsvOk (frac (valueI x).1 360) (frac (valueI x).2.1 60) && wholeOk (hsvBack (valueI x)) && decide (whole3 (hsvBack (valueI x)) = x) && decide ((valueI x).1 = hueI x)
structure Plain (cs : List Cell) : Prop where
  cell : ∀ c ∈ cs, In7 c.1 ∧ lightOk c.1 = true ∧ valueOk c.1 = true ∧ 0 ≤ c.2.1 ∧ c.2.1 < 5 ∧ 0 ≤ c.2.2 ∧ c.2.2 < 3
  few : cs.length ≤ 11
  light : ∃ cut, Reads3 (cs.map lightX) ((keepG hueC cs).map fun k => lightI k.2.1) cut
  value : ∃ cut, Reads3 (cs.map valueX) ((keepG hueC cs).map fun k => valueI k.2.1) cut
  key : ∀ k ∈ keepG hueC cs, k.1 = hueI k.2.1 ∧ lightBack k.2.1 = true ∧ valueBack k.2.1 = true
end Mine
end
section
open PySem PySem.W PySem.Spec PySem.Calls PyProof.Rows PySem.SeqAt
namespace Mine
section
variable {prog : Program} {w : World} {A : Around} {s : Shared} {env : Env} {E : Value → Shared → Prop} {elt target iter : Expr} {scope : Scope} {pos : Pos}
/-- a list comprehension that a name takes, where its iterator has been made -/
def CompU (prog : Program) (w : World) (A : Around) (env : Env) (elt target iter : Expr) (scope : Scope) (pos : Pos) (y : Str) (py : Pos) (Q : Flow → Shared → Prop) (E : Value → Shared → Prop) (it : Value) (s₂ : Shared) : Prop :=
  CompR prog w A env elt target iter scope pos E (fun acc cenv r s' => match r with
      | .ok _ => wpAny (model prog w) A (assign (.Name y py) env acc) (fun _ s'' => ∃ m, s''.heap.Ns cenv.locals m ∧ ∀ h', Heap.SameBut cenv.locals s''.heap h' → Q .next { s'' with heap := h' }) E s'
      | .error x => ∃ m, s'.heap.Ns cenv.locals m ∧ ∀ h', Heap.SameBut cenv.locals s'.heap h' → wpAny (model prog w) A (passOn "comprehension.variables-let-go" x cenv) (fun (_ : Value) s' => Q .next s') E { s' with heap := h' }) it s₂
theorem assign_open {y : Str} {py spos : Pos} {Q : Flow → Shared → Prop}
    (hsw : swapsWith (.ListComp elt [⟨target, iter, [], 0⟩] scope pos) (some (.Name y py)) spos.line env = pure true)
    (hfree : ∀ x ∈ scope.names, x.2 ≠ .free) (hkind : scope.kind = .function) (hnames : ∀ x ∈ scope.names, x.2 = .local → scope.names.lookup x.1 = some .local)
    (h : wpAny (model prog w) A (eval iter env) (fun x s₁ => wpAny (model prog w) A (pyIter x) (fun it s₂ => CompU prog w A env elt target iter scope pos y py Q E it s₂) E s₁) E s)
    (hs : ∀ x, foldedSetIterable iter env x = pure x) :
    wpAny (model prog w) A (exec (.Assign [.Name y py] (.ListComp elt [⟨target, iter, [], 0⟩] scope pos) spos) env) Q E s := by
  rw [exec_Assign_Name_used _ _ _ _ hsw]
  refine wpAny_bind (wpAny_standAt (wpAny_bind ?_))
  show wpAny _ A (do let _ ← comprehension (.ListComp elt [⟨target, iter, [], 0⟩] scope pos) scope env _ (newList []) false (eval iter env) (some (assign (.Name y py) env))) _ _ s
  exact wpAny_bind (wpAny_mono (wpAny_comprehension_use (Q := fun _ s' => Q .next s') rfl hs hfree hkind hnames h)
    (fun _ s' hq => wpAny_pure (wpAny_pure hq)) fun _ _ e => e)
theorem assign_listT {Q : Flow → Shared → Prop} {h₀ : Heap} {m : Str → Option Value} {t : Str} {pt' : Pos} {x y z : Str} {px py pz pt : Pos} {kk : Nat} {l : Addr} {items : Array Value} (R : Nat → Value → Heap → Prop) (F : Fr h₀ env.locals s.heap m)
    (ht' : env.kindOf t = some .local) (hp : (env.scope.kind == .class || (env.scope.kind == .module && env.locals != env.globals)) = false) (hh : A.handled = none) (ht : s.heap.IsList l items) (hsz : items.size ≤ sizeLine)
    (htup : ∀ (i : Nat) v, items[i]? = some v → ∃ T a b c, v = .ref T ∧ IsTup s.heap T #[a, b, c])
    (hcell : ∀ y ∈ scope.names, y.2 ≠ .cell) (hkind : scope.kind = .function) (hx : scope.names.lookup x = some .local) (hy : scope.names.lookup y = some .local) (hz : scope.names.lookup z = some .local) (hR : ∀ i y h h', R i y h → TupKeep h h' → R i y h')
    (turn : ∀ (C : Addr) (i : Nat) (T : Addr) (a b c : Value) (m₁ : Str → Option Value) (h : Heap) (tk : Nat) (own : List (Addr × Obj)) (E' : Value → Shared → Prop), items[i]? = some (.ref T) → IsTup s.heap T #[a, b, c] → Fr s.heap C h (fun n => if n = z then some c else if n = y then some b else if n = x then some a else m₁ n) → News s.heap C h own →
      wpAny (model prog w) A (eval elt (compEnv scope C env)) (EltEnd s.heap C own (R i) s) E' { s with heap := h, toks := tk })
    (done : ∀ D h tk ys, Fr h₀ env.locals h (fun n => if n = t then some (.ref D) else m n) → (∀ news, News h₀ env.locals s.heap news → News h₀ env.locals h news) → h.PlainList D ys → ys.size = items.size → (∀ i y, ys[i]? = some y → R i y h) → Q .next { s with heap := h, toks := tk }) :
    wpAny (model prog w) A (pyIter (.ref l)) (fun it s₂ => CompU prog w A env elt (.Tuple [.Name x px, .Name y py, .Name z pz] kk pt) iter scope pos t pt' Q E it s₂) E s := by
  obtain ⟨o, ho, r⟩ := id ht
  have hne : l ≠ s.heap.objs.size := Nat.ne_of_lt (Heap.lt_size ho)
  refine wpAny_pyIter_list ht ?_
  refine comp_base (g := s.heap) (iter_listT hh s.heap.objs.size l hne items) R hR (fun b o e => Heap.get?_push_of_some _ e) (by rw [Heap.size_push]; exact Nat.le_succ _) (fun b hb => by rw [List.mem_singleton.mp hb]; cases e : s.heap.get? s.heap.objs.size with | none => rfl | some o => exact absurd (Heap.lt_size e) (Nat.lt_irrefl _))
    (fun b hb => by
      rw [Heap.size_push]
      rcases List.mem_cons.mp hb with rfl | hb
      · exact Nat.lt_succ_self _
      · rw [List.mem_singleton.mp hb]; exact Nat.lt_succ_of_lt (Heap.lt_size ho)) ⟨⟨_, Heap.get?_push_size _ rfl, rfl, rfl⟩, ⟨o, Heap.get?_push_of_some _ ho, r⟩⟩ hsz hcell hkind ?_ ?_
  · intro C i v m₁ h tk own E' _ hP F N
    obtain ⟨T, a, b, c, rfl, hT⟩ := htup i v hP
    exact assign_comp3 (s := { s with heap := h, toks := tk }) hh F N (F.tup hT) hkind hx hy hz fun h' tk' F' N' => turn C i T a b c m₁ h' tk' own E' hP hT F' N'
  · intro D C h tk m' ys hD hC hDC Fc hl hn hRs
    have hLs : ∃ o, s.heap.get? env.locals = some o := let ⟨o, _, _, ho, _⟩ := F.ns; ⟨o, ho⟩
    have hLC : env.locals ≠ C := fun q => by obtain ⟨o, ho⟩ := hLs; rw [q, hC] at ho; cases ho
    have hLD : env.locals ≠ D := fun q => by obtain ⟨o, ho⟩ := hLs; rw [q, hD] at ho; cases ho
    have hCb : h₀.get? C = none := by
      cases q : h₀.get? C with
      | none => rfl
      | some o => rw [F.keep _ _ q] at hC; cases hC
    have Fh : Fr h₀ env.locals h m := fr_grow F Fc.keep
    refine wpAny_assign_Name (wpAny_storeName_local ht' Fh.ns (fun h₂ hn₂ hs₂ => ?_) hp)
    have F2 := Fh.set hn₂ hs₂
    have nC := Fc.ns.sameBut hs₂ (Ne.symm hLC)
    refine ⟨m', nC, fun h₃ hs₃ => ?_⟩
    have F3 := F2.change hs₃ (Ne.symm hLC) hCb
    have keepB : ∀ b o, b ≠ env.locals → s.heap.get? b = some o → h₃.get? b = some o := fun b o hb e =>
      hs₃.extBut b o (fun q => by have q' : b = C := q; rw [q', hC] at e; cases e) (hs₂.extBut b o hb (Fc.keep b o e))
    refine done D h₃ _ ys F3 (fun news N p hp => ⟨keepB _ _ (N p hp).2.1 (N p hp).1, (N p hp).2⟩) ((hl.extBut hs₂.extBut (Ne.symm hLD)).extBut hs₃.extBut hDC) hn fun i y hy => ?_
    exact hR _ _ _ _ (hR _ _ _ _ (hRs i y hy) (.ns Fh.ns hs₂.extBut)) (.ns nC hs₃.extBut)
end
end Mine
end
section
open PySem PySem.W PySem.Spec PySem.Calls PyProof.Rows PySem.Builtin PySem.Builtin.Str PySem.StrLaws
namespace Mine
/-- a text's signs -/
def ls (x : Str) : List Nat := x.cps.toList
theorem ls_inj {x y : Str} (h : ls x = ls y) : x = y := Str.ext' (Array.toList_inj.mp h)
theorem ls_app (x y : Str) : ls (x ++ y) = ls x ++ ls y := Array.toList_append
theorem ls_mk (l : List Nat) : ls ⟨l.toArray⟩ = l := by simp [ls]
theorem ls_len (x : Str) : (ls x).length = x.length := by simp [ls, Str.length]
theorem ls_sub (x : Str) (i j : Nat) : ls (strSub x i j) = ((ls x).drop i).take (j - i) := strSub_toList x i j

theorem tw_cut {p : Nat → Bool} : ∀ {a : List Nat} {k : Nat} {r : List Nat}, (∀ c ∈ a, p c = true) → p k = false → (a ++ k :: r).takeWhile p = a
  | [], k, r, _, hk => by simp [hk]
  | c :: a, k, r, ha, hk => by
    rw [List.cons_append, List.takeWhile_cons, if_pos (ha c (.head _)), tw_cut (fun d hd => ha d (.tail _ hd)) hk]
theorem strip_cut {x : Str} {a c r r' : List Nat} {k k' : Nat} (h : ls x = a ++ (k :: r) ++ c) (e : k :: r = r' ++ [k']) (ha : ∀ d ∈ a, Unicode.isSpace d = true) (hc : ∀ d ∈ c, Unicode.isSpace d = true) (hk : Unicode.isSpace k = false) (hk' : Unicode.isSpace k' = false) :
    ls (Txt.strip x) = k :: r := by
  unfold Txt.strip
  rw [PyProof.Rows.stripBy_eq, ls_sub]
  have e1 : stripLo Unicode.isSpace true x = a.length := by
    simp only [stripLo, if_true]
    show ((ls x).takeWhile _).length = _
    rw [h, List.append_assoc, List.cons_append, tw_cut ha hk]
  have e2 : stripHi Unicode.isSpace true x a.length = x.length - c.length := by
    simp only [stripHi, if_true]
    show x.length - (((ls x).drop a.length).reverse.takeWhile _).length = _
    rw [h, List.append_assoc, List.drop_left, e, List.reverse_append, List.reverse_append]
    show x.length - ((c.reverse ++ k' :: r'.reverse).takeWhile _).length = _
    rw [tw_cut (fun d hd => hc d (List.mem_reverse.mp hd)) hk', List.length_reverse]
  rw [e1, e2, h, List.append_assoc, List.drop_left]
  have e3 : x.length - c.length - a.length = (k :: r).length := by
    rw [← ls_len, h]; simp only [List.length_append]; omega
  rw [e3, List.take_left]

theorem cut_unique {c : Nat} : ∀ {a a' b b' : List Nat}, c ∉ a → c ∉ a' → a ++ c :: b = a' ++ c :: b' → a = a' ∧ b = b'
  | [], [], b, b', _, _, h => ⟨rfl, by simpa using h⟩
  | [], d :: a', b, b', _, h', h => by
    simp only [List.nil_append, List.cons_append, List.cons.injEq] at h
    exact absurd (h.1 ▸ List.mem_cons_self) h'
  | d :: a, [], b, b', h', _, h => by
    simp only [List.nil_append, List.cons_append, List.cons.injEq] at h
    exact absurd (h.1 ▸ List.mem_cons_self) h'
  | d :: a, d' :: a', b, b', h1, h2, h => by
    simp only [List.cons_append, List.cons.injEq] at h
    obtain ⟨e1, e2⟩ := cut_unique (fun q => h1 (.tail _ q)) (fun q => h2 (.tail _ q)) h.2
    exact ⟨by rw [h.1, e1], e2⟩
theorem eq_sign : Str.ofString "=" = ⟨#[61]⟩ := by decide +kernel
theorem split_cut {x : Str} {a b : List Nat} (h : ls x = a ++ 61 :: b) (ha : 61 ∉ a) : Cut x ⟨a.toArray⟩ ⟨b.toArray⟩ := by
  have hl : x.length = a.length + 1 + b.length := by rw [← ls_len, h]; simp only [List.length_append, List.length_cons]; omega
  have hat : ∀ i, StrLaws.At x ⟨#[61]⟩ x.length i ↔ (ls x)[i]? = some 61 := fun i => subAt_one x 61 i
  have ha2 : (ls x)[a.length]? = some 61 := by rw [h]; simp
  unfold Cut Txt.splitMax
  rw [eq_sign]
  rw [if_neg]
  · have hlim : limitOf x 1 = 1 := rfl
    rw [hlim]
    rcases occ_head x ⟨#[61]⟩ 1 (Nat.le_refl 1) with ⟨_, hn⟩ | ⟨i, r, e, hi, hmin⟩
    · exact absurd ((hat _).mpr ha2) (hn _)
    · have hr : r = [] := by
        have := occ_length_le x ⟨#[61]⟩ 0 x.length 1
        rw [e] at this
        cases r with
        | nil => rfl
        | cons _ _ => simp at this
      have hia : i = a.length := by
        have h1 := (hat i).mp hi
        have h2 : ¬ a.length < i := fun q => hmin _ q ((hat _).mpr ha2)
        have h3 : ¬ i < a.length := fun q => by
          rw [h, List.getElem?_append_left q] at h1
          exact ha (List.mem_of_getElem? h1)
        omega
      rw [e, hr, hia, if_neg (by simp), partsBetween_eq]
      show [strSub x 0 a.length, strSub x (a.length + (⟨#[61]⟩ : Str).length) x.length] = _
      have e1 : (⟨#[61]⟩ : Str).length = 1 := rfl
      rw [e1]
      have e2 : strSub x 0 a.length = ⟨a.toArray⟩ := ls_inj (by rw [ls_sub, h, List.drop_zero, Nat.sub_zero, List.take_left]; exact (ls_mk a).symm)
      have e3 : strSub x (a.length + 1) x.length = ⟨b.toArray⟩ := ls_inj (by
        rw [ls_sub, h, hl]
        have : (a ++ 61 :: b).drop (a.length + 1) = b := by
          rw [← List.drop_drop, List.drop_left]; rfl
        rw [this, List.take_of_length_le (by omega)]; exact (ls_mk b).symm)
      rw [e2, e3]
  · rw [Bool.or_eq_true, decide_eq_true_eq, decide_eq_true_eq]
    rintro (q | q)
    · have : (⟨#[61]⟩ : Str).length = 1 := rfl
      omega
    · exact absurd (List.mem_of_getElem? ha2) (kind_free x 61 q)

theorem ls_join1 (c : Nat) (p q : Str) (r : List Str) : ls (Str.join ⟨#[c]⟩ (p :: q :: r)) = ls p ++ c :: ls (Str.join ⟨#[c]⟩ (q :: r)) := by
  show ls (p ++ ⟨#[c]⟩ ++ Str.join ⟨#[c]⟩ (q :: r)) = _
  rw [ls_app, ls_app]
  show ls p ++ [c] ++ _ = _
  simp
theorem replace_none {x : Str} (h : 61 ∉ ls x) : Txt.replace x (Str.ofString "=") (Str.ofString ",") = x := by
  rw [eq_sign, replace_one]
  have hj := join_split x ⟨#[61]⟩
  cases hp : Txt.split x ⟨#[61]⟩ with
  | nil => rw [hp] at hj; exact hj
  | cons p r =>
    rw [hp] at hj
    cases r with
    | nil => exact hj
    | cons q r =>
      refine absurd ?_ h
      rw [← hj, ls_join1]
      simp
theorem replace_cut {x : Str} {a b : List Nat} (h : ls x = a ++ 61 :: b) (ha : 61 ∉ a) (hb : 61 ∉ b) : ls (Txt.replace x (Str.ofString "=") (Str.ofString ",")) = a ++ 44 :: b := by
  have hc : Str.ofString "," = ⟨#[44]⟩ := by decide +kernel
  rw [eq_sign, hc, replace_one]
  have hj := join_split x ⟨#[61]⟩
  have hf := split_free x 61
  have hx : 61 ∈ ls x := by rw [h]; simp
  cases hp : Txt.split x ⟨#[61]⟩ with
  | nil => rw [hp] at hj; rw [← hj] at hx; simp [Str.join, Str.empty, ls] at hx
  | cons p r =>
    rw [hp] at hj hf
    cases r with
    | nil =>
      have : p = x := hj
      exact absurd (this ▸ hx) (hf p (.head _))
    | cons q r =>
      have h2 : ls p ++ 61 :: ls (Str.join ⟨#[61]⟩ (q :: r)) = a ++ 61 :: b := by rw [← ls_join1, hj, h]
      obtain ⟨e1, e2⟩ := cut_unique (a := ls p) (hf p (.head _)) ha h2
      cases r with
      | nil =>
        rw [ls_join1, e1]
        show a ++ 44 :: ls q = _
        have : ls q = b := e2
        rw [this]
      | cons q' r =>
        rw [ls_join1] at e2
        exact absurd (e2 ▸ (by simp)) hb
end Mine
end
section
open PySem PySem.W PySem.Spec PySem.Calls PyProof.Rows PySem.Builtin PySem.Builtin.Str PySem.StrLaws
namespace Mine
/-- outside of quotes x is read as y -/
def Pass (x y : Str) : Prop := ∀ r p, (ls x).foldl hstep ⟨r, p, false, false⟩ = ⟨r, p ++ y, false, false⟩
/-- within quotes -/
def PassQ (x y : Str) : Prop := ∀ r p, (ls x).foldl hstep ⟨r, p, false, true⟩ = ⟨r, p ++ y, false, true⟩
theorem one_cons (c : Nat) (l : List Nat) (p : Str) : p ++ ⟨#[c]⟩ ++ (⟨l.toArray⟩ : Str) = p ++ ⟨(c :: l).toArray⟩ := ls_inj (by rw [ls_app, ls_app, ls_app]; simp [ls])
theorem mk_ls (x : Str) : (⟨(ls x).toArray⟩ : Str) = x := ls_inj (ls_mk _)
theorem app_empty (p : Str) : p ++ (⟨([] : List Nat).toArray⟩ : Str) = p := ls_inj (by rw [ls_app]; simp [ls])
theorem plain_run : ∀ (l : List Nat), (∀ c ∈ l, c ≠ 34 ∧ c ≠ 44) → ∀ r p, l.foldl hstep ⟨r, p, false, false⟩ = ⟨r, p ++ ⟨l.toArray⟩, false, false⟩
  | [], _, r, p => by rw [app_empty]; rfl
  | c :: l, h, r, p => by
    rw [List.foldl_cons, hs7 rfl rfl (decide_eq_false (h c (.head _)).2) (decide_eq_false (h c (.head _)).1), ← one_cons c l p]
    exact plain_run l (fun d hd => h d (.tail _ hd)) r _
theorem plain_runQ : ∀ (l : List Nat), (∀ c ∈ l, c ≠ 34 ∧ c ≠ 92) → ∀ r p, l.foldl hstep ⟨r, p, false, true⟩ = ⟨r, p ++ ⟨l.toArray⟩, false, true⟩
  | [], _, r, p => by rw [app_empty]; rfl
  | c :: l, h, r, p => by
    rw [List.foldl_cons, hs4 rfl rfl (decide_eq_false (h c (.head _)).2) (decide_eq_false (h c (.head _)).1), ← one_cons c l p]
    exact plain_runQ l (fun d hd => h d (.tail _ hd)) r _
theorem slash_run : ∀ (l : List Nat) r p, (l.flatMap fun c => [92, c]).foldl hstep ⟨r, p, false, true⟩ = ⟨r, p ++ ⟨l.toArray⟩, false, true⟩
  | [], r, p => by rw [app_empty]; rfl
  | c :: l, r, p => by
    rw [List.flatMap_cons, List.foldl_append, ← one_cons c l p]
    show (l.flatMap fun c => [92, c]).foldl hstep (hstep (hstep ⟨r, p, false, true⟩ 92) c) = _
    rw [hs2 (S := ⟨r, p, false, true⟩) (c := 92) rfl rfl rfl, hs1 rfl]
    exact slash_run l r _
theorem Pass.plain {x : Str} (h : ∀ c ∈ ls x, c ≠ 34 ∧ c ≠ 44) : Pass x x := fun r p => by rw [plain_run _ h, mk_ls]
theorem PassQ.plain {x : Str} (h : ∀ c ∈ ls x, c ≠ 34 ∧ c ≠ 92) : PassQ x x := fun r p => by rw [plain_runQ _ h, mk_ls]
theorem Pass.app {x y x' y' : Str} (h : Pass x y) (h' : Pass x' y') : Pass (x ++ x') (y ++ y') := fun r p => by
  rw [ls_app, List.foldl_append, h, h', Str.append_assoc]
theorem join_empty : ∀ (xs : List Str), ls (Str.join (Str.ofString "") xs) = xs.flatMap ls
  | [] => rfl
  | [x] => by show ls x = _; simp
  | x :: y :: r => by
    show ls (x ++ Str.ofString "" ++ Str.join (Str.ofString "") (y :: r)) = _
    rw [ls_app, ls_app, join_empty (y :: r)]
    have : ls (Str.ofString "") = [] := by decide +kernel
    rw [this]; simp
theorem ls_slashed (x : Str) : ls (slashed x) = (ls x).flatMap fun c => [92, c] := by
  unfold slashed
  show ls (glued _ _) = _
  rw [glued_eq_join, join_empty, List.flatMap_map]
  have : ∀ c, ls (Str.ofString "\\" ++ ⟨#[c]⟩) = [92, c] := fun c => by
    have : ls (Str.ofString "\\") = [92] := by decide +kernel
    rw [ls_app, this]; rfl
  simp only [this]; rfl
theorem PassQ.slash (x : Str) : PassQ (slashed x) x := fun r p => by rw [ls_slashed, slash_run, mk_ls]
theorem quote_ls : ls (Str.ofString "\"") = [34] := by decide +kernel
theorem Pass.quote {x y : Str} (h : PassQ x y) : Pass (Str.ofString "\"" ++ x ++ Str.ofString "\"") (Str.ofString "\"" ++ y ++ Str.ofString "\"") := fun r p => by
  have e : Str.ofString "\"" = ⟨#[34]⟩ := by decide +kernel
  rw [ls_app, ls_app, quote_ls, List.foldl_append, List.foldl_append]
  show hstep ((ls x).foldl hstep (hstep ⟨r, p, false, false⟩ 34)) 34 = _
  rw [hs6 (S := ⟨r, p, false, false⟩) (c := 34) rfl rfl rfl rfl, h, hs3 rfl rfl rfl rfl, e]
  show HS.mk r _ false false = _
  rw [← Str.append_assoc, ← Str.append_assoc]
/-- a joined text, read -/
theorem join_run {α : Type} (f g : α → Str) : ∀ (l : List α) (a : α) (_ : ∀ b ∈ a :: l, Pass (f b) (g b)) (r : List Str), ∃ res part, (ls (Str.join ⟨#[44]⟩ ((a :: l).map f))).foldl hstep ⟨r, Str.ofString "", false, false⟩ = ⟨res, part, false, false⟩ ∧ res ++ [part] = r ++ (a :: l).map g ∧ ∃ b ∈ a :: l, part = g b
  | [], a, h, r => by
    refine ⟨r, g a, ?_, rfl, a, .head _, rfl⟩
    show (ls (f a)).foldl _ _ = _
    rw [h a (.head _)]
    have : Str.ofString "" ++ g a = g a := ls_inj (by rw [ls_app]; have : ls (Str.ofString "") = [] := by decide +kernel
                                                      rw [this]; rfl)
    rw [this]
  | b :: l, a, h, r => by
    obtain ⟨res, part, e1, e2, c, hc, e3⟩ := join_run f g l b (fun d hd => h d (.tail _ hd)) (r ++ [g a])
    refine ⟨res, part, ?_, ?_, c, .tail _ hc, e3⟩
    · show (ls (Str.join ⟨#[44]⟩ (f a :: f b :: l.map f))).foldl _ _ = _
      rw [ls_join1, List.foldl_append, h a (.head _), List.foldl_cons, hs5 rfl rfl rfl]
      have : Str.ofString "" ++ g a = g a := ls_inj (by rw [ls_app]; have : ls (Str.ofString "") = [] := by decide +kernel
                                                        rw [this]; rfl)
      rw [this]
      exact e1
    · rw [e2]; simp
theorem comma_sign : Str.ofString "," = ⟨#[44]⟩ := by decide +kernel
theorem http_join {α : Type} (f g : α → Str) (l : List α) (a : α) (h : ∀ b ∈ a :: l, Pass (f b) (g b)) (hn : ∀ b ∈ a :: l, 0 < (g b).length) : httpL (Txt.join (Str.ofString ",") ((a :: l).map f)) = (a :: l).map fun b => Txt.strip (g b) := by
  unfold httpL hrun hini
  show (hparts ((ls (glued _ _)).foldl hstep _)).map _ = _
  rw [glued_eq_join, comma_sign]
  obtain ⟨res, part, e1, e2, c, hc, e3⟩ := join_run f g l a h []
  rw [e1]
  have : hparts ⟨res, part, false, false⟩ = (a :: l).map g := by
    have h0 := hn c hc
    rw [← e3] at h0
    unfold hparts
    rw [if_neg (by simp only [beq_iff_eq]; omega)]
    exact e2
  rw [this, List.map_map]; rfl
/-- one comma more -/
theorem http_comma {α : Type} (f g : α → Str) (l : List α) (a : α) (h : ∀ b ∈ a :: l, Pass (f b) (g b)) : httpL (Txt.join (Str.ofString ",") ((a :: l).map f) ++ Str.ofString ",") = (a :: l).map fun b => Txt.strip (g b) := by
  unfold httpL hrun hini
  show (hparts ((ls (glued _ _ ++ _)).foldl hstep _)).map _ = _
  rw [glued_eq_join, comma_sign, ls_app, List.foldl_append]
  obtain ⟨res, part, e1, e2, c, hc, e3⟩ := join_run f g l a h []
  rw [e1]
  show (hparts (hstep ⟨res, part, false, false⟩ 44)).map _ = _
  rw [hs5 rfl rfl rfl]
  have : hparts ⟨res ++ [part], Str.ofString "", false, false⟩ = (a :: l).map g := by
    unfold hparts
    rw [if_pos (by show ((Str.ofString "").length == 0) = true; decide +kernel)]
    exact e2
  rw [this, List.map_map]; rfl
end Mine
end
section
open PySem PySem.W PySem.Spec PySem.Calls PyProof.Rows PySem.Builtin PySem.Builtin.Str PySem.StrLaws
namespace Mine
def dec (l : List Nat) : Nat := l.foldl (fun a c => 10 * a + (c - 48)) 0
def txtOk (n : Nat) : Bool := !(ls (txt n)).isEmpty && (ls (txt n)).all (fun c => decide (48 ≤ c) && decide (c ≤ 57)) && dec (ls (txt n)) == n
theorem txt_all : (List.range 1000).all txtOk = true := by decide +kernel
theorem txt_ok {n : Int} (h0 : 0 ≤ n) (h1 : n < 1000) : txtOk n.toNat = true := List.all_eq_true.mp txt_all _ (List.mem_range.mpr (by omega))
def Dig (c : Nat) : Prop := 48 ≤ c ∧ c ≤ 57
structure Digs (x : Str) : Prop where
  ne : ls x ≠ []
  all : ∀ c ∈ ls x, Dig c
theorem Digs.head {x : Str} (h : Digs x) : ∃ d t, ls x = d :: t ∧ Dig d := by
  cases e : ls x with
  | nil => exact absurd e h.ne
  | cons d t => exact ⟨d, t, rfl, h.all d (by rw [e]; exact .head _)⟩
theorem Digs.last {x : Str} (h : Digs x) : ∃ t d, ls x = t ++ [d] ∧ Dig d :=
  ⟨_, _, (List.dropLast_concat_getLast h.ne).symm, h.all _ (List.getLast_mem h.ne)⟩
theorem Digs.free {x : Str} (h : Digs x) {c : Nat} (hc : ¬ Dig c) : c ∉ ls x := fun q => hc (h.all c q)
theorem Digs.pos {x : Str} (h : Digs x) : 0 < x.length := by rw [← ls_len]; exact List.length_pos_iff.mpr h.ne
theorem txt_digs {n : Int} (h0 : 0 ≤ n) (h1 : n < 1000) : Digs (txt n) := by
  have h := txt_ok h0 h1
  rw [txtOk, Bool.and_eq_true, Bool.and_eq_true, Bool.not_eq_true', List.all_eq_true, Int.toNat_of_nonneg h0] at h
  refine ⟨fun e => ?_, fun c hc => ?_⟩
  · have := h.1.1
    rw [e] at this; cases this
  · have := h.1.2 c hc
    rw [Bool.and_eq_true, decide_eq_true_eq, decide_eq_true_eq] at this
    exact this
theorem txt_inj {n k : Int} (h0 : 0 ≤ n) (h1 : n < 1000) (h2 : 0 ≤ k) (h3 : k < 1000) (e : txt n = txt k) : n = k := by
  have a := txt_ok h0 h1
  have b := txt_ok h2 h3
  rw [txtOk, Bool.and_eq_true, beq_iff_eq, Int.toNat_of_nonneg h0] at a
  rw [txtOk, Bool.and_eq_true, beq_iff_eq, Int.toNat_of_nonneg h2] at b
  have := a.2
  rw [e, b.2] at this
  omega
theorem dig_space {c : Nat} (h : Dig c) : Unicode.isSpace c = false := by
  obtain ⟨h1, h2⟩ := h
  have : c = 48 ∨ c = 49 ∨ c = 50 ∨ c = 51 ∨ c = 52 ∨ c = 53 ∨ c = 54 ∨ c = 55 ∨ c = 56 ∨ c = 57 := by omega
  rcases this with rfl | rfl | rfl | rfl | rfl | rfl | rfl | rfl | rfl | rfl <;> decide +kernel
theorem ls_comma : ls (Str.ofString ",") = [44] := by decide +kernel
theorem ls_eq : ls (Str.ofString "=") = [61] := by decide +kernel
theorem ls_sp : ls (Str.ofString " ") = [32] := by decide +kernel
theorem ls_tab : ls (Str.ofString "\t") = [9] := by decide +kernel
theorem ls_nil : ls (Str.ofString "") = [] := by decide +kernel
theorem ls_tcs : ls (Str.ofString "\t, ") = [9, 44, 32] := by decide +kernel

abbrev pair2 (one other : Int) : Str := txt one ++ Str.ofString "," ++ txt other
def inU (one other way : Int) : Str := if way = 2 then Str.ofString " " ++ txt one ++ Str.ofString "\t, " ++ txt other ++ Str.ofString " " else if way = 3 then pair2 one other ++ Str.ofString "," else pair2 one other
def midU (one other way : Int) : Str := if way = 4 then txt one ++ Str.ofString "=" ++ txt other else Str.ofString "\"" ++ inU one other way ++ Str.ofString "\""
def itemK (hue one other way : Int) : Str := txt hue ++ Str.ofString "=" ++ midU one other way
def gapL (gap : Int) : Str := pick gap (Str.ofString "") (Str.ofString " ") (Str.ofString "\t")
def gapR (gap : Int) : Str := pick gap (Str.ofString "") (Str.ofString "\t") (Str.ofString " ")
def itemU (hue one other way gap : Int) : Str := gapL gap ++ itemK hue one other way ++ gapR gap
theorem gapL_sp {gap : Int} : ∀ c ∈ ls (gapL gap), Unicode.isSpace c = true ∧ c ≠ 34 ∧ c ≠ 44 := by
  unfold gapL pick
  split
  · rw [ls_nil]; intro c h; cases h
  · split
    · rw [ls_sp]; intro c h; rw [List.mem_singleton.mp h]; decide +kernel
    · rw [ls_tab]; intro c h; rw [List.mem_singleton.mp h]; decide +kernel
theorem gapR_sp {gap : Int} : ∀ c ∈ ls (gapR gap), Unicode.isSpace c = true ∧ c ≠ 34 ∧ c ≠ 44 := by
  unfold gapR pick
  split
  · rw [ls_nil]; intro c h; cases h
  · split
    · rw [ls_tab]; intro c h; rw [List.mem_singleton.mp h]; decide +kernel
    · rw [ls_sp]; intro c h; rw [List.mem_singleton.mp h]; decide +kernel
theorem dig_plain {c : Nat} (h : Dig c) : c ≠ 34 ∧ c ≠ 44 ∧ c ≠ 92 ∧ c ≠ 61 := by unfold Dig at h; omega
section
variable {hue one other way gap : Int} (H : Digs (txt hue)) (A : Digs (txt one)) (B : Digs (txt other))
include A B
theorem inU_chars : ∀ c ∈ ls (inU one other way), c ≠ 34 ∧ c ≠ 92 ∧ c ≠ 61 := by
  have a : ∀ c ∈ ls (txt one), c ≠ 34 ∧ c ≠ 92 ∧ c ≠ 61 := fun c h => by have := dig_plain (A.all c h); exact ⟨this.1, this.2.2.1, this.2.2.2⟩
  have b : ∀ c ∈ ls (txt other), c ≠ 34 ∧ c ≠ 92 ∧ c ≠ 61 := fun c h => by have := dig_plain (B.all c h); exact ⟨this.1, this.2.2.1, this.2.2.2⟩
  have p : ∀ c ∈ ls (pair2 one other), c ≠ 34 ∧ c ≠ 92 ∧ c ≠ 61 := by
    intro c h
    rw [ls_app, ls_app, ls_comma] at h
    rcases List.mem_append.mp h with h | h
    · rcases List.mem_append.mp h with h | h
      · exact a c h
      · rw [List.mem_singleton.mp h]; decide
    · exact b c h
  unfold inU
  split
  · intro c h
    rw [ls_app, ls_app, ls_app, ls_app, ls_sp, ls_tcs] at h
    simp only [List.mem_append, List.mem_cons, List.not_mem_nil, or_false] at h
    rcases h with (((h | h) | h | h | h) | h) | h
    · subst h; decide
    · exact a c h
    · subst h; decide
    · subst h; decide
    · subst h; decide
    · exact b c h
    · subst h; decide
  · split
    · intro c h
      rw [ls_app, ls_comma] at h
      rcases List.mem_append.mp h with h | h
      · exact p c h
      · rw [List.mem_singleton.mp h]; decide
    · exact p
theorem mid_pass : Pass (itemMid one other way) (midU one other way) := by
  unfold itemMid midU
  split
  · refine (Pass.app (Pass.app (Pass.plain fun c h => ?_) (Pass.plain fun c h => ?_)) (Pass.plain fun c h => ?_))
    · have := dig_plain (A.all c h); exact ⟨this.1, this.2.1⟩
    · rw [ls_eq] at h; rw [List.mem_singleton.mp h]; decide
    · have := dig_plain (B.all c h); exact ⟨this.1, this.2.1⟩
  · refine Pass.quote ?_
    have hq : PassQ (inU one other way) (inU one other way) := PassQ.plain fun c h => ⟨(inU_chars A B c h).1, (inU_chars A B c h).2.1⟩
    unfold itemIn
    split
    · have : inU one other way = txt one ++ Str.ofString "," ++ txt other := by
        unfold inU; rw [if_neg (by omega), if_neg (by omega)]
      rw [this]; exact PassQ.slash _
    · exact hq
include H
theorem item_pass : Pass (itemT hue one other way gap) (itemU hue one other way gap) := by
  have e : itemU hue one other way gap = gapL gap ++ txt hue ++ Str.ofString "=" ++ midU one other way ++ gapR gap := by
    unfold itemU itemK
    rw [← Str.append_assoc, ← Str.append_assoc]
  rw [e]
  refine Pass.app (Pass.app (Pass.app (Pass.app (Pass.plain fun c h => (gapL_sp (gap := gap) c h).2) (Pass.plain fun c h => ?_)) (Pass.plain fun c h => ?_)) (mid_pass A B)) (Pass.plain fun c h => (gapR_sp (gap := gap) c h).2)
  · have := dig_plain (H.all c h); exact ⟨this.1, this.2.1⟩
  · rw [ls_eq] at h; rw [List.mem_singleton.mp h]; decide
theorem item_strip : Txt.strip (itemU hue one other way gap) = itemK hue one other way := by
  obtain ⟨d, t, e1, h1⟩ := H.head
  obtain ⟨t', d', e2, h2⟩ := B.last
  have hl : ∃ r k, ls (midU one other way) = r ++ [k] ∧ Unicode.isSpace k = false := by
    unfold midU
    split
    · refine ⟨ls (txt one) ++ [61] ++ t', d', ?_, dig_space h2⟩
      rw [ls_app, ls_app, ls_eq, e2, List.append_assoc, List.append_assoc, List.append_assoc]
    · refine ⟨ls (Str.ofString "\"" ++ inU one other way), 34, ?_, by decide +kernel⟩
      rw [ls_app, quote_ls]
  obtain ⟨r, k, e3, h3⟩ := hl
  have e4 : ls (itemK hue one other way) = d :: (t ++ [61] ++ (r ++ [k])) := by
    unfold itemK
    rw [ls_app, ls_app, ls_eq, e1, e3]
    simp
  refine ls_inj ?_
  rw [e4]
  refine strip_cut (a := ls (gapL gap)) (c := ls (gapR gap)) (r' := d :: (t ++ [61] ++ r)) (k' := k) ?_ ?_ (fun c h => (gapL_sp c h).1) (fun c h => (gapR_sp c h).1) (dig_space h1) h3
  · unfold itemU
    rw [ls_app, ls_app, e4]
  · simp
omit A B in
theorem item_cut : Cut (itemK hue one other way) (txt hue) (midU one other way) := by
  have := split_cut (x := itemK hue one other way) (a := ls (txt hue)) (b := ls (midU one other way)) (by
    unfold itemK; rw [ls_app, ls_app, ls_eq]; simp) (H.free (by unfold Dig; omega))
  rw [mk_ls, mk_ls] at this
  exact this
end
section
variable {hue one other way gap : Int} (H : Digs (txt hue)) (A : Digs (txt one)) (B : Digs (txt other))
theorem charAt_0 {x : Str} {k : Nat} {t : List Nat} (h : ls x = k :: t) : Txt.item x 0 = ⟨#[k]⟩ := by
  have h1 : x.cps[(0 : Int).toNat]? = some k := by
    have : (ls x)[0]? = some k := by rw [h]; rfl
    simpa [ls] using this
  unfold Txt.item Txt.charAt
  rw [at_nonneg (Int.le_refl 0) h1]; rfl
theorem charAt_1 {x : Str} {k : Nat} {t : List Nat} (h : ls x = t ++ [k]) : Txt.item x (-1) = ⟨#[k]⟩ := by
  have hl : x.length = t.length + 1 := by rw [← ls_len, h]; simp
  have h1 : x.cps[((-1 : Int) + x.length).toNat]? = some k := by
    have e : ((-1 : Int) + x.length).toNat = t.length := by omega
    rw [e]
    have : (ls x)[t.length]? = some k := by rw [h]; simp
    simpa [ls] using this
  unfold Txt.item Txt.charAt
  rw [at_neg (by decide) (by omega) h1]; rfl
theorem quote_sign : Str.ofString "\"" = ⟨#[34]⟩ := by decide +kernel
theorem unq_quoted (y : Str) : unq (Str.ofString "\"" ++ y ++ Str.ofString "\"") = y := by
  have e : ls (Str.ofString "\"" ++ y ++ Str.ofString "\"") = 34 :: (ls y ++ [34]) := by rw [ls_app, ls_app, quote_ls]; simp
  have e2 : ls (Str.ofString "\"" ++ y ++ Str.ofString "\"") = (34 :: ls y) ++ [34] := by rw [e]; simp
  have hl : (Str.ofString "\"" ++ y ++ Str.ofString "\"").length = (ls y).length + 2 := by rw [← ls_len, e]; simp
  rw [unq_yes (by rw [charAt_0 e, quote_sign]; exact beq_self_eq_true _) (by rw [charAt_1 e2, quote_sign]; exact beq_self_eq_true _)]
  refine ls_inj ?_
  generalize Str.ofString "\"" ++ y ++ Str.ofString "\"" = x at *
  show ls (sliceText x (some 1) (some (-1))) = _
  rw [sliceText_neg_hi x _ (by decide) (by omega), sliceText_plain ⟨by decide, by omega, by rw [show x.cps.toList.length = x.length from by simp [Str.length]]; omega⟩]
  have e3 : ((-1 : Int) + x.length - 1).toNat = (ls y).length := by omega
  rw [e3]
  show ls ⟨(((ls x).drop 1).take (ls y).length).toArray⟩ = ls y
  rw [e]
  show ls ⟨((ls y ++ [34]).take (ls y).length).toArray⟩ = ls y
  rw [List.take_left, mk_ls]
include A B
theorem unq_mid : unq (midU one other way) = if way = 4 then txt one ++ Str.ofString "=" ++ txt other else inU one other way := by
  unfold midU
  split
  · obtain ⟨d, t, e1, h1⟩ := A.head
    refine unq_no1 ?_
    rw [charAt_0 (k := d) (t := t ++ [61] ++ ls (txt other)) (by rw [ls_app, ls_app, ls_eq, e1]; simp), quote_sign]
    have := (dig_plain h1).1
    simpa using this
  · exact unq_quoted _
theorem repl_mid : Txt.replace (unq (midU one other way)) (Str.ofString "=") (Str.ofString ",") = inU one other way := by
  rw [unq_mid A B]
  split
  · refine ls_inj ?_
    rw [replace_cut (a := ls (txt one)) (b := ls (txt other)) (by rw [ls_app, ls_app, ls_eq]; simp) (A.free (by unfold Dig; omega)) (B.free (by unfold Dig; omega))]
    unfold inU
    rw [if_neg (by omega), if_neg (by omega), ls_app, ls_app, ls_comma]; simp
  · exact replace_none fun q => (inU_chars A B 61 q).2.2 rfl
omit B in
theorem dig_pass : Pass (txt one) (txt one) := Pass.plain fun c h => by have := dig_plain (A.all c h); exact ⟨this.1, this.2.1⟩
omit B in
theorem dig_strip : Txt.strip (txt one) = txt one := by
  obtain ⟨d, t, e1, h1⟩ := A.head
  obtain ⟨t', d', e2, h2⟩ := A.last
  refine ls_inj ?_
  rw [e1]
  exact strip_cut (a := []) (c := []) (r' := t') (k' := d') (by rw [e1]; simp) (by rw [← e1, e2]) (fun _ h => nomatch h) (fun _ h => nomatch h) (dig_space h1) (dig_space h2)
omit A B in
theorem join_pair : Txt.join (Str.ofString ",") [txt one, txt other] = pair2 one other := by
  show glued _ _ = _
  rw [glued_eq_join]; rfl
theorem http_in : httpL (inU one other way) = [txt one, txt other] := by
  have hp : ∀ b ∈ [one, other], Pass (txt b) (txt b) := List.forall_mem_cons.mpr ⟨dig_pass A, List.forall_mem_cons.mpr ⟨dig_pass B, List.forall_mem_nil _⟩⟩
  unfold inU
  split
  · have e : Str.ofString " " ++ txt one ++ Str.ofString "\t, " ++ txt other ++ Str.ofString " " = Txt.join (Str.ofString ",") ([(one, Str.ofString "\t"), (other, Str.ofString " ")].map fun p => Str.ofString " " ++ txt p.1 ++ p.2) := by
      show _ = glued _ _
      rw [glued_eq_join]
      refine ls_inj ?_
      show _ = ls (Str.ofString " " ++ txt one ++ Str.ofString "\t" ++ Str.ofString "," ++ (Str.ofString " " ++ txt other ++ Str.ofString " "))
      simp only [ls_app, ls_sp, ls_tab, ls_tcs, ls_comma]
      simp
    have hw : ∀ p ∈ [(one, Str.ofString "\t"), (other, Str.ofString " ")], Pass (Str.ofString " " ++ txt p.1 ++ p.2) (Str.ofString " " ++ txt p.1 ++ p.2) ∧ Txt.strip (Str.ofString " " ++ txt p.1 ++ p.2) = txt p.1 := by
      have key : ∀ (n : Int) (z : Str) (c : Nat), Digs (txt n) → ls z = [c] → Unicode.isSpace c = true → c ≠ 34 → c ≠ 44 → Pass (Str.ofString " " ++ txt n ++ z) (Str.ofString " " ++ txt n ++ z) ∧ Txt.strip (Str.ofString " " ++ txt n ++ z) = txt n := by
        intro n z c D hz hs h1 h2
        constructor
        · refine Pass.app (Pass.app (Pass.plain fun k h => ?_) (dig_pass D)) (Pass.plain fun k h => ?_)
          · rw [ls_sp] at h; rw [List.mem_singleton.mp h]; decide
          · rw [hz] at h; rw [List.mem_singleton.mp h]; exact ⟨h1, h2⟩
        · obtain ⟨d, t, e1, h1⟩ := D.head
          obtain ⟨t', d', e2, h2⟩ := D.last
          refine ls_inj ?_
          rw [e1]
          refine strip_cut (a := [32]) (c := [c]) (r' := t') (k' := d') (by rw [ls_app, ls_app, ls_sp, hz, e1]) (by rw [← e1, e2]) (fun k h => ?_) (fun k h => ?_) (dig_space h1) (dig_space h2)
          · rw [List.mem_singleton.mp h]; decide +kernel
          · rw [List.mem_singleton.mp h]; exact hs
      exact List.forall_mem_cons.mpr ⟨key one _ 9 A ls_tab (by decide +kernel) (by decide) (by decide), List.forall_mem_cons.mpr ⟨key other _ 32 B ls_sp (by decide +kernel) (by decide) (by decide), List.forall_mem_nil _⟩⟩
    rw [e, http_join (fun p : Int × Str => Str.ofString " " ++ txt p.1 ++ p.2) (fun p : Int × Str => Str.ofString " " ++ txt p.1 ++ p.2) [(other, Str.ofString " ")] (one, Str.ofString "\t") (fun b hb => (hw b hb).1) (fun b hb => by
      rw [Str.length_append, Str.length_append]
      have : (Str.ofString " ").length = 1 := by decide +kernel
      omega)]
    show [Txt.strip _, Txt.strip _] = _
    rw [(hw _ (.head _)).2, (hw _ (.tail _ (.head _))).2]
  · split
    · rw [← join_pair]
      have := http_comma (fun b : Int => txt b) (fun b : Int => txt b) [other] one hp
      rw [show [txt one, txt other] = [one, other].map (fun b : Int => txt b) from rfl, this]
      show [Txt.strip (txt one), Txt.strip (txt other)] = _
      rw [dig_strip A, dig_strip B]; rfl
    · rw [← join_pair]
      have := http_join (fun b : Int => txt b) (fun b : Int => txt b) [other] one hp (List.forall_mem_cons.mpr ⟨A.pos, List.forall_mem_cons.mpr ⟨B.pos, List.forall_mem_nil _⟩⟩)
      rw [show [txt one, txt other] = [one, other].map (fun b : Int => txt b) from rfl, this]
      show [Txt.strip (txt one), Txt.strip (txt other)] = _
      rw [dig_strip A, dig_strip B]; rfl
end
end Mine
end
section
open PySem PySem.W PySem.Spec PySem.Calls PyProof.Rows
namespace Mine
/-- all that is asked of one colour -/
def colOk (x : Int × Int × Int) : Bool := lightOk x && valueOk x && lightBack x && valueBack x && decide (0 ≤ lo3 x) && decide (lo3 x ≤ hi3 x) && decide (hi3 x < 7)
/-- the rest goes on with the number that x is: the kernel reckons x once -/
def frc (x : UInt64) (k : UInt64 → Bool) : Bool := match x.toNat with
  | 0 => k 0
  | n + 1 => k (UInt64.ofNat (n + 1))
theorem frc_eq (x : UInt64) (k : UInt64 → Bool) : frc x k = k x := by
  have h : UInt64.ofNat x.toNat = x := UInt64.ofNat_toNat
  unfold frc
  split
  · rename_i e; rw [e] at h; rw [← h]; rfl
  · rename_i n e; rw [e] at h; rw [h]
def frcI (x : Int) (k : Int → Bool) : Bool := match x with
  | .ofNat 0 => k 0
  | .ofNat (n + 1) => k (.ofNat (n + 1))
  | .negSucc n => k (.negSucc n)
theorem frcI_eq (x : Int) (k : Int → Bool) : frcI x k = k x := by
  unfold frcI
  split <;> rfl
def hueK (r g b mx mn rg : UInt64) (k : UInt64 → Bool) : Bool :=
  if feq mn mx then k 0 else
  frc (Float64.div (Float64.sub mx r) rg) fun rc => frc (Float64.div (Float64.sub mx g) rg) fun gc => frc (Float64.div (Float64.sub mx b) rg) fun bc =>
  frc (if feq r mx then Float64.sub bc gc else if feq g mx then Float64.sub (Float64.add 4611686018427387904 rc) bc else Float64.sub (Float64.add 4616189618054758400 gc) rc) fun h =>
  frc (Float64.div h 4618441417868443648) fun h6 => frc (Float64.divmod h6 4607182418800017408).snd k
theorem hueK_eq (r g b : UInt64) (k : UInt64 → Bool) : hueK r g b (max3 r g b) (min3 r g b) (Float64.sub (max3 r g b) (min3 r g b)) k = k (hlsF r g b).1 := by
  unfold hueK hlsF
  simp only [frc_eq]
  split <;> rfl
def sE (mx mn rg l : UInt64) : UInt64 := if feq mn mx then 0 else if fle l 4602678819172646912 then Float64.div rg (Float64.add mx mn) else Float64.div rg (Float64.sub (Float64.sub 4611686018427387904 mx) mn)
theorem sE_eq (r g b : UInt64) : sE (max3 r g b) (min3 r g b) (Float64.sub (max3 r g b) (min3 r g b)) (hlsL r g b) = (hlsF r g b).2.2 := by
  unfold sE hlsF
  split <;> rfl
def vE (mx mn rg : UInt64) : UInt64 := if feq mn mx then 0 else Float64.div rg mx
theorem vE_eq (r g b : UInt64) : vE (max3 r g b) (min3 r g b) (Float64.sub (max3 r g b) (min3 r g b)) = (hsvF r g b).2.1 := by
  unfold vE hsvF
  split <;> rfl
theorem l_eq (r g b : UInt64) : hlsL r g b = (hlsF r g b).2.1 := by
  unfold hlsF
  split <;> rfl
theorem mx_eq (r g b : UInt64) : max3 r g b = (hsvF r g b).2.2 := by
  unfold hsvF
  split <;> rfl
theorem hue_eq (r g b : UInt64) : (hlsF r g b).1 = (hsvF r g b).1 := by
  unfold hsvF hlsF
  split <;> rfl
def vK (m1 m2 hue : UInt64) (k : UInt64 → Bool) : Bool :=
  frc (Float64.divmod hue 4607182418800017408).snd fun q =>
  if flt q 4595172819793696085 then frc (Float64.sub m2 m1) fun d => frc (Float64.mul d q) fun e => frc (Float64.mul e 4618441417868443648) fun e6 => frc (Float64.add m1 e6) k
  else if flt q 4602678819172646912 then k m2
  else if flt q 4604180019048437077 then frc (Float64.sub m2 m1) fun d => frc (Float64.sub 4604180019048437077 q) fun q' => frc (Float64.mul d q') fun e => frc (Float64.mul e 4618441417868443648) fun e6 => frc (Float64.add m1 e6) k
  else k m1
theorem vK_eq (m1 m2 hue : UInt64) (k : UInt64 → Bool) : vK m1 m2 hue k = k (vF m1 m2 hue) := by
  unfold vK vF
  simp only [frc_eq]
  split
  · rfl
  · split
    · rfl
    · split <;> rfl
def hlsK (h l s : UInt64) (k : UInt64 → UInt64 → UInt64 → Bool) : Bool :=
  if feq s 0 then k l l l else
  frc (if fle l 4602678819172646912 then Float64.mul l (Float64.add 4607182418800017408 s) else Float64.sub (Float64.add l s) (Float64.mul l s)) fun m2 =>
  frc (Float64.sub (Float64.mul 4611686018427387904 l) m2) fun m1 =>
  frc (Float64.add h 4599676419421066581) fun h1 => frc (Float64.sub h 4599676419421066581) fun h2 =>
  vK m1 m2 h1 fun a => vK m1 m2 h fun b => vK m1 m2 h2 fun c => k a b c
theorem hlsK_eq (h l s : UInt64) (k : UInt64 → UInt64 → UInt64 → Bool) : hlsK h l s k = k (rgbHls h l s).1 (rgbHls h l s).2.1 (rgbHls h l s).2.2 := by
  unfold hlsK rgbHls
  simp only [frc_eq, vK_eq]
  split <;> rfl
def hsvK (h s v : UInt64) (k : UInt64 → UInt64 → UInt64 → Bool) : Bool :=
  if feq s 0 then k v v v else
  frc (Float64.mul h 4618441417868443648) fun h6 => frcI (Flt.toInt Float64.truncOf h6) fun i =>
  frc (Float64.sub h6 (Float64.ofInt i)) fun f =>
  frc (Float64.mul v (Float64.sub 4607182418800017408 s)) fun p =>
  frc (Float64.mul v (Float64.sub 4607182418800017408 (Float64.mul s f))) fun q =>
  frc (Float64.mul v (Float64.sub 4607182418800017408 (Float64.mul s (Float64.sub 4607182418800017408 f)))) fun t =>
  frcI (i.fmod 6) fun j =>
  if j = 0 then k v t p else if j = 1 then k q v p else if j = 2 then k p v t else if j = 3 then k p q v else if j = 4 then k t p v else k v p q
theorem hsvK_eq (h s v : UInt64) (k : UInt64 → UInt64 → UInt64 → Bool) : hsvK h s v k = k (rgbHsv h s v).1 (rgbHsv h s v).2.1 (rgbHsv h s v).2.2 := by
  unfold hsvK rgbHsv
  simp only [frc_eq, frcI_eq]
  have e : Flt.toInt Float64.truncOf (Float64.mul h 4618441417868443648) = sixth h := rfl
  simp only [e]
  split
  · rfl
  · split
    · rfl
    · split
      · rfl
      · split
        · rfl
        · split
          · rfl
          · split <;> rfl
def wholeK (a b c : UInt64) (x : Int × Int × Int) : Bool := frc (six a) fun a6 => frc (six b) fun b6 => frc (six c) fun c6 => fin a6 && fin b6 && fin c6 && decide ((rnd a6, rnd b6, rnd c6) = x)
theorem wholeK_eq (y : UInt64 × UInt64 × UInt64) (x : Int × Int × Int) : wholeK y.1 y.2.1 y.2.2 x = (wholeOk y && decide (whole3 y = x)) := by
  unfold wholeK
  simp only [frc_eq]; rfl
def lightK (x : Int × Int × Int) (H L S : Int) : Bool :=
  frc (frac H 360) fun h => frc (frac L 12) fun l => frc (frac S 60) fun s => !Float64.isInf h && !Float64.isInf l && !Float64.isInf s && hlsK h l s (fun a b c => wholeK a b c x) && decide (H = hueI x)
theorem lightK_eq (x : Int × Int × Int) (h : lightK x (lightI x).1 (lightI x).2.1 (lightI x).2.2 = true) : lightBack x = true := by
  unfold lightK at h
  simp only [frc_eq, hlsK_eq, wholeK_eq, Bool.and_eq_true] at h
  obtain ⟨⟨⟨⟨a, b⟩, c⟩, d, e⟩, f⟩ := h
  simp only [lightBack, Bool.and_eq_true]
  exact ⟨⟨⟨⟨⟨a, b⟩, c⟩, d⟩, e⟩, f⟩
def valueK (x : Int × Int × Int) (H S V : Int) : Bool :=
  frc (frac H 360) fun h => frc (frac S 60) fun s => frc (frac V 6) fun v => !Float64.isInf h && !Float64.isInf s && !Float64.isInf v && rgbHsvOk h s && hsvK h s v (fun a b c => wholeK a b c x) && decide (H = hueI x)
theorem valueK_eq (x : Int × Int × Int) (h : valueK x (valueI x).1 (valueI x).2.1 (valueI x).2.2 = true) : valueBack x = true := by
  unfold valueK at h
  simp only [frc_eq, hsvK_eq, wholeK_eq, Bool.and_eq_true] at h
  obtain ⟨⟨⟨⟨⟨a, b⟩, c⟩, g⟩, d, e⟩, f⟩ := h
  simp only [valueBack, Bool.and_eq_true]
  exact ⟨⟨⟨⟨⟨⟨a, b⟩, c⟩, g⟩, d⟩, e⟩, f⟩
def hlsOkE (mx mn rg l : UInt64) : Bool := feq mn mx || (!Float64.isZero rg && (if fle l 4602678819172646912 then !Float64.isZero (Float64.add mx mn) else !Float64.isZero (Float64.sub (Float64.sub 4611686018427387904 mx) mn)))
def hsvOkE (mx mn rg : UInt64) : Bool := feq mn mx || (!Float64.isZero rg && !Float64.isZero mx)
def colF (x : Int × Int × Int) : Bool :=
  frc (frac x.1 6) fun r => frc (frac x.2.1 6) fun g => frc (frac x.2.2 6) fun b => frc (max3 r g b) fun mx => frc (min3 r g b) fun mn => frc (Float64.sub mx mn) fun rg =>
  hueK r g b mx mn rg fun h => frc (Float64.div (Float64.add mx mn) 4611686018427387904) fun l => frc (sE mx mn rg l) fun s => frc (vE mx mn rg) fun u =>
  frc (byN 360 h) fun hh => frc (byN 12 l) fun ll => frc (byN 60 s) fun ss => frc (byN 60 u) fun uu => frc (byN 6 mx) fun vv =>
  frcI (rnd hh) fun H => frcI (rnd ll) fun L => frcI (rnd ss) fun S => frcI (rnd uu) fun U => frcI (rnd vv) fun V =>
    (infNo (r, g, b) && hlsOkE mx mn rg l && fin hh && fin ll && fin ss && small3 (H, L, S)) && (infNo (r, g, b) && hsvOkE mx mn rg && fin hh && fin uu && fin vv && small3 (H, U, V)) &&
    lightK x H L S && valueK x H U V && decide (0 ≤ lo3 x) && decide (lo3 x ≤ hi3 x) && decide (hi3 x < 7)
theorem colF_ok {x : Int × Int × Int} (h : colF x = true) : colOk x = true := by
  unfold colF at h
  simp only [frc_eq, frcI_eq] at h
  rw [hueK_eq, vE_eq] at h
  have el : Float64.div (Float64.add (max3 (frac x.1 6) (frac x.2.1 6) (frac x.2.2 6)) (min3 (frac x.1 6) (frac x.2.1 6) (frac x.2.2 6))) 4611686018427387904 = hlsL (frac x.1 6) (frac x.2.1 6) (frac x.2.2 6) := rfl
  rw [el, sE_eq] at h
  rw [Bool.and_eq_true, Bool.and_eq_true, Bool.and_eq_true, Bool.and_eq_true, Bool.and_eq_true, Bool.and_eq_true] at h
  obtain ⟨⟨⟨⟨⟨⟨h1, h2⟩, h3⟩, h4⟩, h5⟩, h6⟩, h7⟩ := h
  have a1 : lightOk x = true := by
    rw [l_eq] at h1
    have e : hlsOk (frac x.1 6) (frac x.2.1 6) (frac x.2.2 6) = hlsOkE (max3 (frac x.1 6) (frac x.2.1 6) (frac x.2.2 6)) (min3 (frac x.1 6) (frac x.2.1 6) (frac x.2.2 6)) (Float64.sub (max3 (frac x.1 6) (frac x.2.1 6) (frac x.2.2 6)) (min3 (frac x.1 6) (frac x.2.1 6) (frac x.2.2 6))) (hlsF (frac x.1 6) (frac x.2.1 6) (frac x.2.2 6)).2.1 := by
      rw [← l_eq]; rfl
    rw [← e] at h1
    exact h1
  have a2 : valueOk x = true := by
    rw [hue_eq, mx_eq (frac x.1 6) (frac x.2.1 6) (frac x.2.2 6)] at h2
    have e : hsvOk (frac x.1 6) (frac x.2.1 6) (frac x.2.2 6) = hsvOkE (hsvF (frac x.1 6) (frac x.2.1 6) (frac x.2.2 6)).2.2 (min3 (frac x.1 6) (frac x.2.1 6) (frac x.2.2 6)) (Float64.sub (hsvF (frac x.1 6) (frac x.2.1 6) (frac x.2.2 6)).2.2 (min3 (frac x.1 6) (frac x.2.1 6) (frac x.2.2 6))) := by
      rw [← mx_eq]; rfl
    rw [← e] at h2
    exact h2
  have a3 : lightBack x = true := by
    rw [l_eq] at h3
    exact lightK_eq x h3
  have a4 : valueBack x = true := by
    rw [hue_eq, mx_eq (frac x.1 6) (frac x.2.1 6) (frac x.2.2 6)] at h4
    exact valueK_eq x h4
  simp only [colOk, Bool.and_eq_true]
  exact ⟨⟨⟨⟨⟨⟨a1, a2⟩, a3⟩, a4⟩, h5⟩, h6⟩, h7⟩
def lay (a : Int) (b : Int) : List (Int × Int × Int) := [(a, b, 0), (a, b, 1), (a, b, 2), (a, b, 3), (a, b, 4), (a, b, 5), (a, b, 6)]
def layAll (a : Int) : Bool := (lay a 0).all colF && (lay a 1).all colF && (lay a 2).all colF && (lay a 3).all colF && (lay a 4).all colF && (lay a 5).all colF && (lay a 6).all colF
theorem lay0 : layAll 0 = true := by decide +kernel
theorem lay1 : layAll 1 = true := by decide +kernel
theorem lay2 : layAll 2 = true := by decide +kernel
theorem lay3 : layAll 3 = true := by decide +kernel
theorem lay4 : layAll 4 = true := by decide +kernel
theorem lay5 : layAll 5 = true := by decide +kernel
theorem lay6 : layAll 6 = true := by decide +kernel
theorem seven {x : Int} (h0 : 0 ≤ x) (h1 : x < 7) : x = 0 ∨ x = 1 ∨ x = 2 ∨ x = 3 ∨ x = 4 ∨ x = 5 ∨ x = 6 := by omega
theorem lay_in {a b c : Int} (h0 : 0 ≤ c) (h1 : c < 7) (h : (lay a b).all colF = true) : colF (a, b, c) = true := by
  refine List.all_eq_true.mp h _ ?_
  rcases seven h0 h1 with rfl | rfl | rfl | rfl | rfl | rfl | rfl <;> simp [lay]
theorem layAll_in {a b c : Int} (h2 : 0 ≤ b) (h3 : b < 7) (h0 : 0 ≤ c) (h1 : c < 7) (h : layAll a = true) : colF (a, b, c) = true := by
  simp only [layAll, Bool.and_eq_true] at h
  obtain ⟨⟨⟨⟨⟨⟨e0, e1⟩, e2⟩, e3⟩, e4⟩, e5⟩, e6⟩ := h
  rcases seven h2 h3 with rfl | rfl | rfl | rfl | rfl | rfl | rfl
  · exact lay_in h0 h1 e0
  · exact lay_in h0 h1 e1
  · exact lay_in h0 h1 e2
  · exact lay_in h0 h1 e3
  · exact lay_in h0 h1 e4
  · exact lay_in h0 h1 e5
  · exact lay_in h0 h1 e6
def Col (x : Int × Int × Int) : Prop := 0 ≤ x.1 ∧ x.1 < 7 ∧ 0 ≤ x.2.1 ∧ x.2.1 < 7 ∧ 0 ≤ x.2.2 ∧ x.2.2 < 7
theorem col_f {x : Int × Int × Int} (h : Col x) : colF x = true := by
  obtain ⟨a, b, c⟩ := x
  obtain ⟨h0, h1, h2, h3, h4, h5⟩ := h
  dsimp only at h0 h1 h2 h3 h4 h5
  rcases seven h0 h1 with rfl | rfl | rfl | rfl | rfl | rfl | rfl
  · exact layAll_in h2 h3 h4 h5 lay0
  · exact layAll_in h2 h3 h4 h5 lay1
  · exact layAll_in h2 h3 h4 h5 lay2
  · exact layAll_in h2 h3 h4 h5 lay3
  · exact layAll_in h2 h3 h4 h5 lay4
  · exact layAll_in h2 h3 h4 h5 lay5
  · exact layAll_in h2 h3 h4 h5 lay6
theorem col_ok {x : Int × Int × Int} (h : Col x) : colOk x = true := colF_ok (col_f h)
end Mine
end
section
open PySem PySem.W PySem.Spec PySem.Calls PyProof.Rows PySem.Builtin PySem.Builtin.Str PySem.StrLaws
namespace Mine
theorem lit_len {x : Str} {n : Nat} (h : (x.length == n) = true) : x.length = n := by simpa using h
section
variable {t : Int × Int × Int} (h : small3 t = true) {way gap : Int}
include h
theorem dig1 : Digs (txt t.1) := let r := small3_out h; txt_digs r.1 r.2.1
theorem dig2 : Digs (txt t.2.1) := let r := small3_out h; txt_digs r.2.2.1 r.2.2.2.1
theorem dig3 : Digs (txt t.2.2) := let r := small3_out h; txt_digs r.2.2.2.2.1 r.2.2.2.2.2
theorem len1 : (txt t.1).length ≤ 3 := let r := small3_out h; short_int r.1 r.2.1
theorem len2 : (txt t.2.1).length ≤ 3 := let r := small3_out h; short_int r.2.2.1 r.2.2.2.1
theorem len3 : (txt t.2.2).length ≤ 3 := let r := small3_out h; short_int r.2.2.2.2.1 r.2.2.2.2.2
theorem inU_len : (inU t.2.1 t.2.2 way).length ≤ 20 := by
  have a := len2 h
  have b := len3 h
  have e1 : (Str.ofString ",").length = 1 := by decide +kernel
  have e2 : (Str.ofString " ").length = 1 := by decide +kernel
  have e3 : (Str.ofString "\t, ").length = 3 := by decide +kernel
  unfold inU
  split
  · simp only [Str.length_append]; omega
  · split
    · simp only [Str.length_append]; omega
    · simp only [Str.length_append]; omega
theorem unq_len : (unq (midU t.2.1 t.2.2 way)).length ≤ 20 := by
  rw [unq_mid (dig2 h) (dig3 h)]
  split
  · have a := len2 h
    have b := len3 h
    have e1 : (Str.ofString "=").length = 1 := by decide +kernel
    simp only [Str.length_append]; omega
  · exact inU_len h
theorem midU_len : (midU t.2.1 t.2.2 way).length ≤ 30 ∧ 0 < (midU t.2.1 t.2.2 way).length := by
  unfold midU
  split
  · have a := len2 h
    have b := len3 h
    have e1 : (Str.ofString "=").length = 1 := by decide +kernel
    simp only [Str.length_append]; omega
  · have a := inU_len h (way := way)
    have e1 : (Str.ofString "\"").length = 1 := by decide +kernel
    simp only [Str.length_append]; omega
theorem itemK_len : (itemK t.1 t.2.1 t.2.2 way).length ≤ 40 := by
  have a := len1 h
  have b := (midU_len h (way := way)).1
  have e1 : (Str.ofString "=").length = 1 := by decide +kernel
  unfold itemK
  simp only [Str.length_append]; omega
theorem itemU_pos : 0 < (itemU t.1 t.2.1 t.2.2 way gap).length := by
  have b := (midU_len h (way := way)).2
  unfold itemU itemK
  simp only [Str.length_append]; omega
theorem itemT_len : Short 60 (itemT t.1 t.2.1 t.2.2 way gap) := by
  have a := len1 h
  have b := len2 h
  have c := len3 h
  have e1 : (Str.ofString ",").length = 1 := by decide +kernel
  have e2 : (Str.ofString " ").length = 1 := by decide +kernel
  have e3 : (Str.ofString "\t, ").length = 3 := by decide +kernel
  have e4 : (Str.ofString "=").length = 1 := by decide +kernel
  have e5 : (Str.ofString "\"").length = 1 := by decide +kernel
  have hs : ∀ x : Str, (slashed x).length = 2 * x.length := fun x => by
    rw [← ls_len, ls_slashed, ← ls_len]
    generalize ls x = l
    induction l with
    | nil => rfl
    | cons c l ih => rw [List.flatMap_cons, List.length_append, ih, List.length_cons]; simp only [List.length_cons, List.length_nil]; omega
  have hi : (itemIn t.2.1 t.2.2 way).length ≤ 20 := by
    unfold itemIn
    split
    · rw [hs]; simp only [Str.length_append]; omega
    · split
      · simp only [Str.length_append]; omega
      · split
        · simp only [Str.length_append]; omega
        · simp only [Str.length_append]; omega
  have hm : (itemMid t.2.1 t.2.2 way).length ≤ 30 := by
    unfold itemMid
    split
    · simp only [Str.length_append]; omega
    · simp only [Str.length_append]; omega
  have g1 : Short 1 (pick gap (Str.ofString "") (Str.ofString " ") (Str.ofString "\t")) := pick_short (short_lit (by decide +kernel)) (short_lit (by decide +kernel)) (short_lit (by decide +kernel))
  have g2 : Short 1 (pick gap (Str.ofString "") (Str.ofString "\t") (Str.ofString " ")) := pick_short (short_lit (by decide +kernel)) (short_lit (by decide +kernel)) (short_lit (by decide +kernel))
  unfold Short at *
  unfold itemT
  simp only [Str.length_append]; omega
theorem told_item : Told (txt t.1, unq (midU t.2.1 t.2.2 way)) t := by
  have e := repl_mid (way := way) (dig2 h) (dig3 h)
  refine ⟨rfl, ?_, h, ?_, ?_⟩
  · show httpL (Txt.replace (unq _) _ _) = _
    rw [e]; exact http_in (dig2 h) (dig3 h)
  · exact Nat.le_trans (unq_len h) (by decide)
  · show Short 4000 (Txt.replace (unq _) _ _)
    rw [e]; exact Nat.le_trans (inU_len h) (by decide)
end
section
variable {κ γ : Type} [DecidableEq κ]
theorem putG_mem {β : Type} {ps : List (κ × β)} {k : κ} {v : β} {p : κ × β} (h : p ∈ putG ps k v) : p ∈ ps ∨ p = (k, v) := by
  unfold putG at h
  split at h
  · obtain ⟨q, hq, e⟩ := List.mem_map.mp h
    split at e
    · rename_i e2; exact .inr (by rw [← e, e2])
    · exact .inl (e ▸ hq)
  · rcases List.mem_append.mp h with h | h
    · exact .inl h
    · exact .inr (List.mem_singleton.mp h)
theorem foldl_mem (f : γ → κ) : ∀ (cs : List γ) (ps : List (κ × γ)) (p : κ × γ), p ∈ cs.foldl (fun ps c => putG ps (f c) c) ps → p ∈ ps ∨ (p.1 = f p.2 ∧ p.2 ∈ cs)
  | [], _, _, h => .inl h
  | c :: cs, ps, p, h => by
    rcases foldl_mem f cs _ p h with h | ⟨h1, h2⟩
    · rcases putG_mem h with h | rfl
      · exact .inl h
      · exact .inr ⟨rfl, .head _⟩
    · exact .inr ⟨h1, .tail _ h2⟩
theorem keepG_mem {f : γ → κ} {cs : List γ} {p : κ × γ} (h : p ∈ keepG f cs) : p.1 = f p.2 ∧ p.2 ∈ cs := by
  rcases foldl_mem f cs [] p h with h | h
  · cases h
  · exact h
end
def Hun (n : Int) : Prop := 0 ≤ n ∧ n < 1000
theorem txt_eq {n k : Int} (a : Hun n) (b : Hun k) : decide (txt n = txt k) = decide (n = k) := by
  rw [Bool.eq_iff_iff, decide_eq_true_eq, decide_eq_true_eq]
  exact ⟨txt_inj a.1 a.2 b.1 b.2, fun e => by rw [e]⟩
theorem put_map (g : Cell → Str) {ps : List (Int × Cell)} {n : Int} {c : Cell} (hp : ∀ p ∈ ps, Hun p.1) (hn : Hun n) :
    putP (ps.map fun k => (txt k.1, g k.2)) (txt n) (g c) = (putG ps n c).map fun k => (txt k.1, g k.2) := by
  have ea : (ps.map fun k => (txt k.1, g k.2)).any (fun p => decide (p.1 = txt n)) = ps.any (fun p => decide (p.1 = n)) := by
    rw [List.any_map, Bool.eq_iff_iff, List.any_eq_true, List.any_eq_true]
    constructor
    · rintro ⟨p, h1, h2⟩
      exact ⟨p, h1, by rw [← txt_eq (hp p h1) hn]; exact h2⟩
    · rintro ⟨p, h1, h2⟩
      refine ⟨p, h1, ?_⟩
      show decide (txt p.1 = txt n) = true
      rw [txt_eq (hp p h1) hn]; exact h2
  unfold putP putG
  rw [ea]
  split
  · rw [List.map_map, List.map_map]
    refine List.map_congr_left fun p h1 => ?_
    show (if txt p.1 = txt n then (txt p.1, g c) else (txt p.1, g p.2)) = (fun k : Int × Cell => (txt k.1, g k.2)) (if p.1 = n then (p.1, c) else p)
    by_cases e : p.1 = n
    · rw [if_pos e, if_pos (by rw [e])]
    · rw [if_neg e, if_neg fun q => e (txt_inj (hp p h1).1 (hp p h1).2 hn.1 hn.2 q)]
  · rw [List.map_append]; rfl
theorem fold_map (f : Cell → Int) (g : Cell → Str) : ∀ (cs : List Cell) (ps : List (Int × Cell)), (∀ c ∈ cs, Hun (f c)) → (∀ p ∈ ps, Hun p.1) →
    cs.foldl (fun ps c => putP ps (txt (f c)) (g c)) (ps.map fun k => (txt k.1, g k.2)) = (cs.foldl (fun ps c => putG ps (f c) c) ps).map fun k => (txt k.1, g k.2)
  | [], _, _, _ => rfl
  | c :: cs, ps, hc, hp => by
    rw [List.foldl_cons, List.foldl_cons, put_map g hp (hc c (.head _))]
    refine fold_map f g cs _ (fun d hd => hc d (.tail _ hd)) fun p h => ?_
    rcases putG_mem h with h | rfl
    · exact hp p h
    · exact hc c (.head _)
def cutE (y : Str) : Str × Str := match Txt.splitMax y (Str.ofString "=") 1 with
  | [k, v] => (k, v)
  | _ => (y, y)
theorem cutE_of {y k v : Str} (h : Cut y k v) : cutE y = (k, v) := by
  unfold cutE
  have h' : Txt.splitMax y (Str.ofString "=") 1 = [k, v] := h
  rw [h']
/-- a header read back -/
theorem reads (P : Int × Int × Int → Int × Int × Int) (c : Cell) (r : List Cell) (hs : ∀ x ∈ c :: r, small3 (P x.1) = true ∧ (P x.1).1 = hueI x.1) (hl : (c :: r).length ≤ 11) :
    Reads3 ((c :: r).map fun x => itemT (P x.1).1 (P x.1).2.1 (P x.1).2.2 x.2.1 x.2.2) ((keepG hueC (c :: r)).map fun k => P k.2.1) cutE := by
  have hk : httpL (Txt.join (Str.ofString ",") ((c :: r).map fun x => itemT (P x.1).1 (P x.1).2.1 (P x.1).2.2 x.2.1 x.2.2)) = (c :: r).map fun x => itemK (P x.1).1 (P x.1).2.1 (P x.1).2.2 x.2.1 := by
    rw [http_join (fun x : Cell => itemT (P x.1).1 (P x.1).2.1 (P x.1).2.2 x.2.1 x.2.2) (fun x : Cell => itemU (P x.1).1 (P x.1).2.1 (P x.1).2.2 x.2.1 x.2.2) r c
      (fun x hx => item_pass (dig1 (hs x hx).1) (dig2 (hs x hx).1) (dig3 (hs x hx).1)) (fun x hx => itemU_pos (hs x hx).1)]
    exact List.map_congr_left fun x hx => item_strip (dig1 (hs x hx).1) (dig2 (hs x hx).1) (dig3 (hs x hx).1)
  have hcut : ∀ x ∈ c :: r, Cut (itemK (P x.1).1 (P x.1).2.1 (P x.1).2.2 x.2.1) (txt (P x.1).1) (midU (P x.1).2.1 (P x.1).2.2 x.2.1) := fun x hx => item_cut (dig1 (hs x hx).1)
  have hf : kvs1 cutE ((c :: r).map fun x => itemK (P x.1).1 (P x.1).2.1 (P x.1).2.2 x.2.1) = (keepG hueC (c :: r)).map fun k => (txt k.1, unq (midU (P k.2.1).2.1 (P k.2.1).2.2 k.2.2.1)) := by
    have h0 := fold_map hueC (fun x => unq (midU (P x.1).2.1 (P x.1).2.2 x.2.1)) (c :: r) [] (fun x hx => by
      have a := small3_out (hs x hx).1
      show 0 ≤ hueI x.1 ∧ hueI x.1 < 1000
      rw [← (hs x hx).2]; exact ⟨a.1, a.2.1⟩) (fun _ h => nomatch h)
    unfold kvs1
    rw [List.foldl_map]
    refine Eq.trans ?_ h0
    have : ∀ (l : List Cell) (ps : List (Str × Str)), (∀ x ∈ l, x ∈ c :: r) →
        l.foldl (fun ps x => putP ps (cutE (itemK (P x.1).1 (P x.1).2.1 (P x.1).2.2 x.2.1)).1 (unq (cutE (itemK (P x.1).1 (P x.1).2.1 (P x.1).2.2 x.2.1)).2)) ps =
        l.foldl (fun ps x => putP ps (txt (hueC x)) (unq (midU (P x.1).2.1 (P x.1).2.2 x.2.1))) ps := by
      intro l
      induction l with
      | nil => intro ps _; rfl
      | cons x l ih =>
        intro ps hx
        rw [List.foldl_cons, List.foldl_cons, cutE_of (hcut x (hx x (.head _)))]
        have e : txt (P x.1).1 = txt (hueC x) := by rw [(hs x (hx x (.head _))).2]; rfl
        dsimp only
        rw [e]
        exact ih _ fun y hy => hx y (.tail _ hy)
    exact this (c :: r) [] fun _ h => h
  refine ⟨?_, ?_, ?_, ?_, ?_⟩
  · exact weigh_map _ 60 _ (fun x hx => itemT_len (hs x hx).1) _ (by omega)
  · rw [hk]
    intro y hy
    obtain ⟨x, hx, rfl⟩ := List.mem_map.mp hy
    rw [cutE_of (hcut x hx)]
    have a := midU_len (hs x hx).1 (way := x.2.1)
    exact ⟨Nat.le_trans (itemK_len (hs x hx).1) (by decide), hcut x hx, a.2, Nat.le_trans a.1 (by decide)⟩
  · rw [hk, List.length_map]; omega
  · rw [hk, hf, List.length_map, List.length_map]
  · rw [hk, hf]
    intro i p hp
    rw [List.getElem?_map] at hp
    obtain ⟨k, e1, rfl⟩ := Option.map_eq_some_iff.mp hp
    obtain ⟨e2, e3⟩ := keepG_mem (List.mem_of_getElem? e1)
    refine ⟨P k.2.1, by rw [List.getElem?_map, e1]; rfl, ?_⟩
    have e4 : k.1 = (P k.2.1).1 := by rw [e2, (hs _ e3).2]; rfl
    rw [e4]
    exact told_item (hs _ e3).1
end Mine
end
section
open PySem PySem.W PySem.Spec PySem.Calls PyProof.Rows
namespace Mine
def CellIn (c : Cell) : Prop := Col c.1 ∧ 0 ≤ c.2.1 ∧ c.2.1 < 5 ∧ 0 ≤ c.2.2 ∧ c.2.2 < 3
theorem cellOf_in (n : Int) : CellIn (cellOf n) :=
  ⟨⟨Int.fmod_nonneg_of_pos _ (by decide), Int.fmod_lt_of_pos _ (by decide), Int.fmod_nonneg_of_pos _ (by decide), Int.fmod_lt_of_pos _ (by decide), Int.fmod_nonneg_of_pos _ (by decide), Int.fmod_lt_of_pos _ (by decide)⟩,
    Int.fmod_nonneg_of_pos _ (by decide), Int.fmod_lt_of_pos _ (by decide), Int.fmod_nonneg_of_pos _ (by decide), Int.fmod_lt_of_pos _ (by decide)⟩
theorem cells5_in : ∀ c ∈ cells5, CellIn c := by
  refine List.forall_mem_cons.mpr ⟨?_, List.forall_mem_cons.mpr ⟨?_, List.forall_mem_cons.mpr ⟨?_, List.forall_mem_cons.mpr ⟨?_, List.forall_mem_cons.mpr ⟨?_, List.forall_mem_nil _⟩⟩⟩⟩⟩
  all_goals (unfold CellIn Col; decide)
theorem cells_in (ns : List Int) : ∀ c ∈ cells5 ++ (ns.take 6).map cellOf, CellIn c := fun c h => by
  rcases List.mem_append.mp h with h | h
  · exact cells5_in c h
  · obtain ⟨n, _, rfl⟩ := List.mem_map.mp h
    exact cellOf_in n
structure ColAll (x : Int × Int × Int) : Prop where
  a : lightOk x = true
  b : valueOk x = true
  c : lightBack x = true
  d : valueBack x = true
  e : In7 x
theorem col_all {x : Int × Int × Int} (h : Col x) : ColAll x := by
  have := col_ok h
  simp only [colOk, Bool.and_eq_true, decide_eq_true_eq] at this
  obtain ⟨⟨⟨⟨⟨⟨a, b⟩, c⟩, d⟩, e⟩, f⟩, g⟩ := this
  exact ⟨a, b, c, d, e, f, g⟩
theorem plain_of (c : Cell) (r : List Cell) (h : ∀ x ∈ c :: r, CellIn x) (hl : (c :: r).length ≤ 11) : Plain (c :: r) where
  cell := fun x hx => let q := h x hx; let k := col_all q.1; ⟨k.e, k.a, k.b, q.2.1, q.2.2.1, q.2.2.2.1, q.2.2.2.2⟩
  few := hl
  light := ⟨cutE, reads lightI c r (fun x hx => by
    have k := col_all (h x hx).1
    have a := k.a
    have b := k.c
    simp only [lightOk, Bool.and_eq_true] at a
    simp only [lightBack, Bool.and_eq_true, decide_eq_true_eq] at b
    exact ⟨a.2, b.2⟩) hl⟩
  value := ⟨cutE, reads valueI c r (fun x hx => by
    have k := col_all (h x hx).1
    have a := k.b
    have b := k.d
    simp only [valueOk, Bool.and_eq_true] at a
    simp only [valueBack, Bool.and_eq_true, decide_eq_true_eq] at b
    exact ⟨a.2, b.2⟩) hl⟩
  key := fun k hk => by
    obtain ⟨e1, e2⟩ := keepG_mem hk
    have q := col_all (h _ e2).1
    exact ⟨e1, q.c, q.d⟩
theorem plain_all (ns : List Int) : Plain (cells5 ++ (ns.take 6).map cellOf) := by
  have hc := cells_in ns
  have hl : (cells5 ++ (ns.take 6).map cellOf).length ≤ 11 := by
    rw [List.length_append, List.length_map, List.length_take]
    show 5 + _ ≤ 11
    omega
  have hne : ∃ c r, cells5 ++ (ns.take 6).map cellOf = c :: r := ⟨_, _, List.cons_append⟩
  generalize cells5 ++ (ns.take 6).map cellOf = cs at hc hl hne ⊢
  obtain ⟨c, r, rfl⟩ := hne
  exact plain_of c r hc hl
end Mine
end
section
open PySem PySem.W PySem.Spec PySem.Calls PyProof.Rows
namespace Mine
theorem law_units (e : Env) : (callerA.deeper e).units + 10 < cLine := by
  rw [Around.deeper_units]; decide

theorem tup3_same {h : Heap} {T : Addr} {a b c x y z : Value} (t : IsTup h T #[a, b, c]) (u : IsTup h T [x, y, z].toArray) : a = x ∧ b = y ∧ c = z := by
  obtain ⟨o, e, _, n, d⟩ := t
  obtain ⟨o', e', _, n', d'⟩ := u
  rw [e] at e'; cases e'
  rw [d] at d'; cases d'
  exact ⟨rfl, rfl, rfl⟩
theorem cells_tup {h : Heap} {vs : Array Value} {cs : List Cell} (C : CellsT h vs cs) : ∀ (i : Nat) v, vs[i]? = some v → ∃ T a b c, v = .ref T ∧ IsTup h T #[a, b, c] := fun i v hv =>
  let ⟨_, D, _, _, _, _, _, _, _, e2, e3, _⟩ := C.2 i v hv; ⟨D, _, _, _, e2, e3⟩
def TrisT (h : Heap) (vs : Array Value) (ts : List (Int × Int × Int)) : Prop :=
  vs.size = ts.length ∧ ∀ (i : Nat) v, vs[i]? = some v → ∃ c T t1 t2 t3, ts[i]? = some c ∧ v = .ref T ∧ IsTup h T (tri c t1 t2 t3)
theorem TrisR.at {h₀ h : Heap} {L : Addr} {m : Str → Option Value} {r : List (Addr × Obj)} {vs : Array Value} {ts : List (Int × Int × Int)} (x : TrisR h₀ r vs ts) (F : Fr h₀ L h m) (N : News h₀ L h r) : TrisT h vs ts :=
  ⟨x.1, fun i v hv => let ⟨c, T, t1, t2, t3, e1, e2, e3⟩ := x.2 i v hv; ⟨c, T, t1, t2, t3, e1, e2, e3.get F N⟩⟩
theorem tris_tup {h : Heap} {vs : Array Value} {ts : List (Int × Int × Int)} (C : TrisT h vs ts) : ∀ (i : Nat) v, vs[i]? = some v → ∃ T a b c, v = .ref T ∧ IsTup h T #[a, b, c] := fun i v hv =>
  let ⟨_, T, _, _, _, _, e2, e3⟩ := C.2 i v hv; ⟨T, _, _, _, e2, e3⟩
/-- an item of a list is a pair of a hue and a colour -/
def PairAt (ks : List (Int × Cell)) (i : Nat) (v : Value) (h : Heap) : Prop :=
  ∃ k P T t0 t1 t2 t3, ks[i]? = some k ∧ v = .ref P ∧ IsTup h P (pairT k.1 t0 T) ∧ IsTup h T (tri k.2.1 t1 t2 t3)
theorem PairAt.keep {ks : List (Int × Cell)} (i : Nat) (v : Value) (h h' : Heap) (x : PairAt ks i v h) (q : TupKeep h h') : PairAt ks i v h' :=
  let ⟨k, P, T, t0, t1, t2, t3, e1, e2, e3, e4⟩ := x; ⟨k, P, T, t0, t1, t2, t3, e1, e2, q.tup e3, q.tup e4⟩
theorem pair_end {ks : List (Int × Cell)} {i : Nat} {k : Int × Cell} {h : Heap} {P T : Addr} {n : Int} {x : Int × Int × Int} {t0 t1 t2 t3 : Tok} (e1 : ks[i]? = some k) (en : n = k.1) (ex : x = k.2.1)
    (hP : h.get? P = some { cls := .type "tuple", data := .seq #[.int n t0, .ref T] }) (hT : h.get? T = some { cls := .type "tuple", data := .seq #[.int x.1 t1, .int x.2.1 t2, .int x.2.2 t3] }) : PairAt ks i (.ref P) h := by
  subst en ex
  exact ⟨k, P, T, t0, t1, t2, t3, e1, rfl, ⟨_, hP, rfl, 0, rfl⟩, ⟨_, hT, rfl, 0, rfl⟩⟩
theorem kept_of {h₀ h : Heap} {L : Addr} {m : Str → Option Value} {r : List (Addr × Obj)} {ks : List (Int × Cell)} {ys : Array Value} (g : ∀ a o, h.get? a = some o → a ≠ L → At h₀ r a o) (F : Fr h₀ L h m) (hn : ys.size = ks.length) (hR : ∀ (i : Nat) y, ys[i]? = some y → PairAt ks i y h) :
    KeptR h₀ r ys (ks.map fun k => (k.1, k.2.1)) :=
  ⟨by rw [List.length_map]; exact hn, fun i v hv => by
    obtain ⟨k, P, T, t0, t1, t2, t3, e1, e2, e3, e4⟩ := hR i v hv
    exact ⟨(k.1, k.2.1), P, T, t0, t1, t2, t3, by rw [List.getElem?_map, e1]; rfl, e2, .of g F e3, .of g F e4⟩⟩
theorem lightBack_out {x : Int × Int × Int} (h : lightBack x = true) : Float64.isInf (frac (lightI x).1 360) = false ∧ Float64.isInf (frac (lightI x).2.1 12) = false ∧ Float64.isInf (frac (lightI x).2.2 60) = false ∧
    wholeOk (rgbHls (frac (lightI x).1 360) (frac (lightI x).2.1 12) (frac (lightI x).2.2 60)) = true ∧ whole3 (rgbHls (frac (lightI x).1 360) (frac (lightI x).2.1 12) (frac (lightI x).2.2 60)) = x ∧ (lightI x).1 = hueI x := by
  simp only [lightBack, Bool.and_eq_true, Bool.not_eq_true', decide_eq_true_eq] at h
  exact ⟨h.1.1.1.1.1, h.1.1.1.1.2, h.1.1.1.2, h.1.1.2, h.1.2, h.2⟩
theorem valueBack_out {x : Int × Int × Int} (h : valueBack x = true) : Float64.isInf (frac (valueI x).1 360) = false ∧ Float64.isInf (frac (valueI x).2.1 60) = false ∧ Float64.isInf (frac (valueI x).2.2 6) = false ∧
    rgbHsvOk (frac (valueI x).1 360) (frac (valueI x).2.1 60) = true ∧ wholeOk (rgbHsv (frac (valueI x).1 360) (frac (valueI x).2.1 60) (frac (valueI x).2.2 6)) = true ∧ whole3 (rgbHsv (frac (valueI x).1 360) (frac (valueI x).2.1 60) (frac (valueI x).2.2 6)) = x ∧ (valueI x).1 = hueI x := by
  simp only [valueBack, Bool.and_eq_true, Bool.not_eq_true', decide_eq_true_eq] at h
  exact ⟨h.1.1.1.1.1.1, h.1.1.1.1.1.2, h.1.1.1.1.2, h.1.1.1.2, h.1.1.2, h.1.2, h.2⟩
set_option maxHeartbeats 8000000 in
theorem law_holds (plain : ∀ ns : List Int, Plain (cells5 ++ (ns.take 6).map cellOf)) : PySem.Challenge.rw_mq0234_01.Holds := by
  k_with_none
  k_with "eval ListComp" => (k_dflt (k_here; (with_reducible refine' comp_open (by k_dflt (decide)) (by k_dflt (exact rfl)) (by k_dflt (decide)) ?_ (by k_dflt ((intro _; rfl)))); k_whole))
  k_with "eval Name" => (k_dflt (k_here; (with_reducible show wpAny _ _ (eval (Expr.Name _ _) (compEnv _ _ _)) _ _ _); (first | ((with_reducible refine' nameC_L (by k_dflt (k_asm)) (by k_dflt (exact rfl)) ?_ (by k_dflt (exact rfl)) (by k_dflt (exact rfl)) (by k_dflt (decide))); k_whole) | ((with_reducible refine' nameC_K (by k_dflt (k_asm)) (by k_dflt (k_asm)) (by k_dflt (k_asm)) (by k_dflt (k_is)) ?_ (by k_dflt (exact rfl)) (by k_dflt (exact rfl)) (by k_dflt (exact rfl)) (by k_dflt (decide))); k_whole) | ((with_reducible refine' nameC_B (by k_dflt (k_asm)) (by k_dflt (k_asm)) (by k_dflt (k_asm)) (by k_dflt (k_is)) (by k_dflt (boot_fast)) (by k_dflt (decide)) ?_ (by k_dflt (exact rfl)) (by k_dflt (exact rfl)) (by k_dflt (exact rfl)) (by k_dflt (exact rfl)) (by k_dflt (decide))); k_whole))))
  k_with "ite" => (k_dflt ((with_reducible show ite (_ = true) _ _); (with_reducible refine ite_split ?_ ?_) <;> intro _))
  k_with "ite" => (k_dflt (k_closed; (first | (with_reducible refine ite_neg (by k_dflt (decide)) ?_) | (with_reducible refine ite_pos (by k_dflt (decide)) ?_))))
  k_with "binaryOp Div int int" => (k_dflt ((with_reducible refine' idiv (by k_dflt (decide)) (by k_dflt (assumption)) ?_); k_whole))
  k_with "binaryOp Mult int float" => (k_dflt ((with_reducible refine' imul (by k_dflt (decide)) ?_); k_whole))
  k_with "call builtin:round" => (k_dflt ((with_reducible refine' round_fin (by k_dflt (exact rfl)) (by k_dflt (assumption)) ?_); k_whole))
  k_with "subscriptTail" => (k_dflt (k_here; (with_reducible show wpAny _ _ (subscriptTail _ _ (Value.ref _) (Value.int _ _)) _ _ _); (with_reducible refine' tup_item (by k_dflt (k_asm)) (by k_dflt (k_asm)) (by k_dflt (decide)) (by k_dflt (decide)) (by k_dflt (exact rfl)) (by k_dflt (exact rfl)) (by k_dflt (with_unfolding_all rfl)) ?_); k_whole))
  k_with "newTuple" => (k_dflt (k_here; (with_reducible refine' kup_newTuple (by k_dflt (k_asm)) (by k_dflt (k_asm)) ?_ (by k_dflt (exact Nat.le_of_ble_eq_true rfl))); intro DWq hWq FWq NWq l1Wq; (try k_sweep)))
  k_with "call ref" => (k_dflt (k_here; (with_reducible show wpAny _ _ (call (Value.ref 68) _) _ _ _); (with_reducible refine Stop.intro ?_)))
  k_with "call ref" => (k_dflt (k_here; (with_reducible show wpAny _ _ (call (Value.ref 113) _) _ _ _); (with_reducible refine Stop.intro ?_)))
  k_with "call ref" => (k_dflt (k_here; (with_reducible show wpAny _ _ (call (Value.ref 94) _) _ _ _); (with_reducible refine Stop.intro ?_)))
  k_with "call ref" => (k_dflt (k_here; (with_reducible show wpAny _ _ (call (Value.ref 80) [Value.ref _, Value.int _ _, Value.int _ _]) _ _ _); (refine' useC_str (by_light_does (by k_dflt (exact Fr.tup (by k_asm) (by assumption))) (by k_dflt (assumption)) (by k_dflt (assumption)) (by k_dflt (assumption)) (by k_dflt (assumption)) (by k_dflt (assumption))) (by k_dflt (k_asm)) (by k_dflt (k_asm)) (by k_dflt (k_asm)) (by k_dflt (k_asm)) (by k_dflt (k_asm)) (by k_dflt (k_asm)) (by k_dflt (exact rfl)) (by k_dflt (decide)) (by k_dflt (decide)) ?_); k_whole; intro t9Wq h9Wq tk9Wq F9Wq N9Wq s9Wq; (try dsimp only); (try k_sweep); (try k_fold)))
  k_with "call ref" => (k_dflt (k_here; (with_reducible show wpAny _ _ (call (Value.ref 87) [Value.ref _, Value.int _ _, Value.int _ _]) _ _ _); (refine' useC_str (by_value_does (by k_dflt (exact Fr.tup (by k_asm) (by assumption))) (by k_dflt (assumption)) (by k_dflt (assumption)) (by k_dflt (assumption)) (by k_dflt (assumption)) (by k_dflt (assumption))) (by k_dflt (k_asm)) (by k_dflt (k_asm)) (by k_dflt (k_asm)) (by k_dflt (k_asm)) (by k_dflt (k_asm)) (by k_dflt (k_asm)) (by k_dflt (exact rfl)) (by k_dflt (decide)) (by k_dflt (decide)) ?_); k_whole; intro t9Wq h9Wq tk9Wq F9Wq N9Wq s9Wq; (try dsimp only); (try k_sweep); (try k_fold)))
  k_with "call ref" => (k_dflt (k_here; (with_reducible show wpAny _ _ (call (Value.ref 40) [Value.float _ _, Value.float _ _, Value.float _ _]) _ _ _); (refine' useC_tup3F hls_to_rgb_does (by k_dflt (k_asm)) (by k_dflt (k_asm)) (by k_dflt (k_asm)) (by k_dflt (k_asm)) (by k_dflt (k_asm)) (by k_dflt (k_asm)) (by k_dflt (exact rfl)) (by k_dflt (decide)) (by k_dflt (decide)) ?_); k_whole; intro b9Wq t9Wq u9Wq v9Wq h9Wq tk9Wq F9Wq N9Wq; (try dsimp only); (try k_sweep); (try k_fold)))
  k_with "call ref" => (k_dflt (k_here; (with_reducible show wpAny _ _ (call (Value.ref 61) [Value.float _ _, Value.float _ _, Value.float _ _]) _ _ _); (refine' useC_tup3F (hsv_to_rgb_does (by k_dflt (assumption))) (by k_dflt (k_asm)) (by k_dflt (k_asm)) (by k_dflt (k_asm)) (by k_dflt (k_asm)) (by k_dflt (k_asm)) (by k_dflt (k_asm)) (by k_dflt (exact rfl)) (by k_dflt (decide)) (by k_dflt (decide)) ?_); k_whole; intro b9Wq t9Wq u9Wq v9Wq h9Wq tk9Wq F9Wq N9Wq; (try dsimp only); (try k_sweep); (try k_fold)))
  k_with "call ref" => (k_dflt (k_here; (with_reducible show wpAny _ _ (call (Value.ref 99) [Value.ref _]) _ _ _); (refine' useC_tup3I (whole_does (by k_dflt (exact News.isTup (by k_asm) (by k_mem))) (by k_dflt (assumption))) (by k_dflt (k_asm)) (by k_dflt (k_asm)) (by k_dflt (k_asm)) (by k_dflt (k_asm)) (by k_dflt (k_asm)) (by k_dflt (k_asm)) (by k_dflt (exact rfl)) (by k_dflt (decide)) (by k_dflt (decide)) ?_); k_whole; intro b9Wq t9Wq u9Wq v9Wq h9Wq tk9Wq F9Wq N9Wq; (try dsimp only); (try k_sweep); (try k_fold)))
  k_with "exec Assign cons ListComp" => (k_dflt (k_here; (with_reducible refine' assign_open (by k_dflt (with_unfolding_all rfl)) (by k_dflt (decide)) (by k_dflt (exact rfl)) (by k_dflt (decide)) ?_ (by k_dflt ((intro _; rfl)))); k_whole))
  k_with "compareOp Eq ref ref" => (k_dflt (k_here; (with_reducible refine' eq_kept (by k_dflt (k_asm)) (by k_dflt (k_asm)) (by k_dflt (assumption)) (by k_dflt (assumption)) (by k_dflt (assumption)) (by k_dflt (assumption)) (by k_dflt (exact law_units _)) ?_); k_whole))
  refine hd ?_
  k_go0
  (with_reducible rename IntsAre _ _ => hI)
  (with_reducible rename Heap.IsList _ _ _ => hL)
  (with_reducible rename ¬ _ < _ => hlen)
  (with_reducible rename Frag.In _ _ => KX)
  (with_reducible rename Top _ _ _ _ _ _ => T0)
  k_steps
  refine Stop.go ?_
  refine use_cells (drawn_does (Fr.lst (by k_asm) hL) hI (by omega)) (by k_asm) (by k_asm) (by k_asm) (by k_asm) (by k_asm) rfl (by decide) (by decide) ?_
  (rename List Int => ns)
  have hP := plain ns
  generalize cells5 ++ (ns.take 6).map cellOf = cs at hP ⊢
  clear plain
  intro b1 vs1 r1 h1 tk1 F1 N1 s1 L1 C1
  obtain ⟨pc, pf, ⟨cut1, pl⟩, ⟨cut2, pv⟩, pk⟩ := hP
  (try dsimp only); (try k_sweep); (try k_fold)
  k_steps
  refine Stop.go ?_
  refine use_kept (kept_does (L1.get (by k_asm) (by k_asm)) (C1.at (by k_asm) (by k_asm)) (fun c h => (pc c h).1) (by omega)) (by k_asm) (by k_asm) (by k_asm) (by k_asm) (by k_asm) rfl (by decide) (by decide) ?_
  intro b2 vs2 r2 h2 tk2 F2 N2 s2 L2 K2
  replace L1 := L1.mono s2
  replace C1 := C1.mono s2
  (try dsimp only); (try k_sweep); (try k_fold)
  have hz : vs1.size ≤ sizeLine := by rw [C1.1, sizeLine_eq]; omega
  have hz0 : (keepG hueC cs).length ≤ 4000 := by
    have := keepG_len hueC cs
    omega
  have hz1 : ((keepG hueC cs).map fun k => lightI k.2.1).length ≤ 4000 := by rw [List.length_map]; omega
  have hz2 : ((keepG hueC cs).map fun k => valueI k.2.1).length ≤ 4000 := by rw [List.length_map]; omega
  k_steps
  (with_reducible rename Fr _ _ _ _ => F3); (with_reducible rename News _ _ _ _ => N3)
  have L9 := L1.get F3 N3
  have C0 := C1.at F3 N3
  have X9 := KX.keeps F3.keep
  have T9 := T0.keeps F3.keep
  refine comp_listT (fun i v _ => ∃ c t, cs[i]? = some c ∧ v = .str (lightX c) t) rfl L9 hz (cells_tup C0) (by decide) rfl rfl rfl rfl (fun _ _ _ _ h _ => h) ?_ ?_
  · intro C9 i9 T9 a9 b9 c9 m9 h9 tk9 own9 E9 hi9 hT9 F9 N9
    obtain ⟨c, D, T, u1, u2, u3, u4, u5, e1, e2, e3, e4⟩ := C0.2 i9 _ hi9
    cases e2
    obtain ⟨rfl, rfl, rfl⟩ := tup3_same hT9 e3
    obtain ⟨k1, k2, k3, k4, k5, k6, k7⟩ := pc c (List.mem_of_getElem? e1)
    clear pc pl pv pk hT9 e3 hi9 C0 L9
    dsimp only at F9 N9
    k_steps
    (with_reducible rename Fr _ _ _ _ => F8); (with_reducible rename News _ _ _ _ => N8)
    exact ⟨_, _, _, _, rfl, F8, N8, fun _ h => h, c, _, e1, rfl⟩
  intro D9 h9 tk9 ys9 hD9 hk9 hl9 hn9 hR9
  have hA9 : StrsAre ys9.toList (cs.map lightX) := strs_of (by rw [Array.length_toList, hn9]; exact C1.1) fun i y hy => hR9 i y (by rw [← Array.getElem?_toList]; exact hy)
  obtain ⟨n9, eD9⟩ := hl9
  have N4 := news_add F3 N3 hk9 eD9 hD9
  have F4 := fr_grow F3 hk9
  clear F3 N3 X9 T9 hR9 hn9 eD9 hk9 C0 L9
  k_steps
  refine Stop.go ?_
  refine use_tris (read_does cut1 (News.isList (by k_asm) (by k_mem)) hA9 pl.weigh pl.cuts pl.few pl.len pl.told hz1) (by k_asm) (by k_asm) (by k_asm) (by k_asm) (by k_asm) rfl (by decide) (by decide) ?_
  intro b3 vs3 r3 h3 tk3 F3 N3 s3 L3 K3
  replace L1 := (L1.mono (r' := (D9, listOf ys9 n9) :: r2) fun _ h => .tail _ h).mono s3
  replace C1 := (C1.mono (r' := (D9, listOf ys9 n9) :: r2) fun _ h => .tail _ h).mono s3
  replace L2 := (L2.mono (r' := (D9, listOf ys9 n9) :: r2) fun _ h => .tail _ h).mono s3
  replace K2 := (K2.mono (r' := (D9, listOf ys9 n9) :: r2) fun _ h => .tail _ h).mono s3
  clear s3 hA9 hD9
  (try dsimp only); (try k_sweep); (try k_fold)
  k_steps
  (with_reducible rename Fr _ _ _ _ => F3); (with_reducible rename News _ _ _ _ => N3)
  have L9 := L1.get F3 N3
  have C0 := C1.at F3 N3
  have X9 := KX.keeps F3.keep
  have T9 := T0.keeps F3.keep
  refine comp_listT (fun i v _ => ∃ c t, cs[i]? = some c ∧ v = .str (valueX c) t) rfl L9 hz (cells_tup C0) (by decide) rfl rfl rfl rfl (fun _ _ _ _ h _ => h) ?_ ?_
  · intro C9 i9 T9 a9 b9 c9 m9 h9 tk9 own9 E9 hi9 hT9 F9 N9
    obtain ⟨c, D, T, u1, u2, u3, u4, u5, e1, e2, e3, e4⟩ := C0.2 i9 _ hi9
    cases e2
    obtain ⟨rfl, rfl, rfl⟩ := tup3_same hT9 e3
    obtain ⟨k1, k2, k3, k4, k5, k6, k7⟩ := pc c (List.mem_of_getElem? e1)
    clear pc pl pv pk hT9 e3 hi9 C0 L9
    dsimp only at F9 N9
    k_steps
    (with_reducible rename Fr _ _ _ _ => F8); (with_reducible rename News _ _ _ _ => N8)
    exact ⟨_, _, _, _, rfl, F8, N8, fun _ h => h, c, _, e1, rfl⟩
  intro D9 h9 tk9 ys9 hD9 hk9 hl9 hn9 hR9
  have hA9 : StrsAre ys9.toList (cs.map valueX) := strs_of (by rw [Array.length_toList, hn9]; exact C1.1) fun i y hy => hR9 i y (by rw [← Array.getElem?_toList]; exact hy)
  obtain ⟨n9, eD9⟩ := hl9
  have N4 := news_add F3 N3 hk9 eD9 hD9
  have F4 := fr_grow F3 hk9
  clear F3 N3 X9 T9 hR9 hn9 eD9 hk9 C0 L9
  k_steps
  refine Stop.go ?_
  refine use_tris (read_does cut2 (News.isList (by k_asm) (by k_mem)) hA9 pv.weigh pv.cuts pv.few pv.len pv.told hz2) (by k_asm) (by k_asm) (by k_asm) (by k_asm) (by k_asm) rfl (by decide) (by decide) ?_
  intro b4 vs4 r4 h4 tk4 F4 N4 s4 L4 K4
  replace L1 := (L1.mono (r' := (D9, listOf ys9 n9) :: r3) fun _ h => .tail _ h).mono s4
  replace C1 := (C1.mono (r' := (D9, listOf ys9 n9) :: r3) fun _ h => .tail _ h).mono s4
  replace L2 := (L2.mono (r' := (D9, listOf ys9 n9) :: r3) fun _ h => .tail _ h).mono s4
  replace K2 := (K2.mono (r' := (D9, listOf ys9 n9) :: r3) fun _ h => .tail _ h).mono s4
  replace L3 := (L3.mono (r' := (D9, listOf ys9 n9) :: r3) fun _ h => .tail _ h).mono s4
  replace K3 := (K3.mono (r' := (D9, listOf ys9 n9) :: r3) fun _ h => .tail _ h).mono s4
  clear s4 hA9 hD9
  (try dsimp only); (try k_sweep); (try k_fold)
  k_steps
  (with_reducible rename Fr _ _ _ _ => F3); (with_reducible rename News _ _ _ _ => N3)
  have L9 := L3.get F3 N3
  have C0 := K3.at F3 N3
  have X9 := KX.keeps F3.keep
  have T9 := T0.keeps F3.keep
  refine assign_listT (PairAt (keepG hueC cs)) F3 rfl rfl rfl L9 (by rw [C0.1, sizeLine_eq]; omega) (tris_tup C0) (by decide) rfl rfl rfl rfl PairAt.keep ?_ ?_
  · intro C9 i9 T9 a9 b9 c9 m9 h9 tk9 own9 E9 hi9 hT9 F9 N9
    obtain ⟨c, D, u1, u2, u3, e1, e2, e3⟩ := C0.2 i9 _ hi9
    cases e2
    obtain ⟨rfl, rfl, rfl⟩ := tup3_same hT9 e3
    rw [List.getElem?_map] at e1
    obtain ⟨k, e1, e4⟩ := Option.map_eq_some_iff.mp e1
    have e5 := (pk k (List.mem_of_getElem? e1)).1
    obtain ⟨j1, j2, j3, j4, j5, j6⟩ := lightBack_out (pk k (List.mem_of_getElem? e1)).2.1
    rw [e4] at j1 j2 j3 j4 j5 j6
    clear pc pl pv pk hT9 e3 hi9 C0 L9 e4
    dsimp only at F9 N9
    k_steps
    (with_reducible rename Fr _ _ _ _ => F8); (with_reducible rename News _ _ _ _ => N8)
    exact ⟨_, _, _, _, rfl, F8, N8, fun _ h => .tail _ (.tail _ (.tail _ h)), pair_end e1 (j6.trans e5.symm) j5 (N8 _ (.head _)).1 (N8 _ (.tail _ (.head _))).1⟩
  intro D9 h9 tk9 ys9 F4 hN9 hl9 hn9 hR9
  obtain ⟨n9, eD9⟩ := hl9
  obtain ⟨r5, N4, s5, g9⟩ := grab F4 (hN9 _ N3)
  have L5 : ListR _ r5 D9 ys9 := .of g9 F4 ⟨_, eD9, rfl, _, rfl⟩
  have K5 := kept_of g9 F4 (by rw [hn9, K3.1, List.length_map]) hR9
  replace L2 := L2.mono s5
  replace K2 := K2.mono s5
  replace L4 := L4.mono s5
  replace K4 := K4.mono s5
  clear F3 N3 X9 T9 hR9 hn9 eD9 hN9 g9 C0 L9 s5
  k_steps
  (with_reducible rename Fr _ _ _ _ => F3); (with_reducible rename News _ _ _ _ => N3)
  have L9 := L4.get F3 N3
  have C0 := K4.at F3 N3
  have X9 := KX.keeps F3.keep
  have T9 := T0.keeps F3.keep
  refine assign_listT (PairAt (keepG hueC cs)) F3 rfl rfl rfl L9 (by rw [C0.1, sizeLine_eq]; omega) (tris_tup C0) (by decide) rfl rfl rfl rfl PairAt.keep ?_ ?_
  · intro C9 i9 T9 a9 b9 c9 m9 h9 tk9 own9 E9 hi9 hT9 F9 N9
    obtain ⟨c, D, u1, u2, u3, e1, e2, e3⟩ := C0.2 i9 _ hi9
    cases e2
    obtain ⟨rfl, rfl, rfl⟩ := tup3_same hT9 e3
    rw [List.getElem?_map] at e1
    obtain ⟨k, e1, e4⟩ := Option.map_eq_some_iff.mp e1
    have e5 := (pk k (List.mem_of_getElem? e1)).1
    obtain ⟨j1, j2, j3, j0, j4, j5, j6⟩ := valueBack_out (pk k (List.mem_of_getElem? e1)).2.2
    rw [e4] at j1 j2 j3 j0 j4 j5 j6
    clear pc pl pv pk hT9 e3 hi9 C0 L9 e4
    dsimp only at F9 N9
    k_steps
    (with_reducible rename Fr _ _ _ _ => F8); (with_reducible rename News _ _ _ _ => N8)
    exact ⟨_, _, _, _, rfl, F8, N8, fun _ h => .tail _ (.tail _ (.tail _ h)), pair_end e1 (j6.trans e5.symm) j5 (N8 _ (.head _)).1 (N8 _ (.tail _ (.head _))).1⟩
  intro D9 h9 tk9 ys9 F4 hN9 hl9 hn9 hR9
  obtain ⟨n9, eD9⟩ := hl9
  obtain ⟨r6, N4, s6, g9⟩ := grab F4 (hN9 _ N3)
  have L6 : ListR _ r6 D9 ys9 := .of g9 F4 ⟨_, eD9, rfl, _, rfl⟩
  have K6 := kept_of g9 F4 (by rw [hn9, K4.1, List.length_map]) hR9
  replace L2 := L2.mono s6
  replace K2 := K2.mono s6
  replace L5 := L5.mono s6
  replace K5 := K5.mono s6
  clear F3 N3 X9 T9 hR9 hn9 eD9 hN9 g9 C0 L9 s6
  k_steps
end Mine
end
theorem PySem.Challenge.cw_mq0234_01_holds : PySem.Challenge.rw_mq0234_01.Holds :=
  Mine.law_holds Mine.plain_all
