import PyProof.Rows.All
import Wide.All
import OpenK.AllK
import Wide.FinOn
import PySem.Challenge.RW_pu0058_01
open PySem PySem.W PyProof.Rows
set_option Elab.async false
set_option maxRecDepth 100000
set_option maxHeartbeats 8000000
namespace Mine
theorem both {A : Prop} {p q : Program} {loose : List Str} {Xt : Shared → Bool} {α : Type} {Yf : Shared → α} {Ya : World → α} {N : Nat} {g0 : Bool} (main : A) (_ : LeftO p q loose Xt Yf Ya N g0) : A := main
end Mine
local macro_rules | `(tactic| k_head) => `(tactic| (
  fail_if_success (have hx : True ∧ True := by assumption)
  have hx : True ∧ True := ⟨trivial, trivial⟩
  apply Mine.both
  rotate_left
  refine ?$(Lean.mkIdent `hl)
  rotate_right
  focus k_head
  case $(Lean.mkIdent `hl):ident =>
    exact LeftO.of_split "special-get-raises" (fun w => by kernel_rfl)))
namespace Mine
open_top hd for PySem.Challenge.rw_pu0058_01
end Mine
open PySem PySem.W PyProof.Rows
namespace Mine
noncomputable def ch (b : Bool) : Nat := if b then 9 else 32
noncomputable def tx (bs : List Bool) : Str := ⟨(bs.map ch).toArray⟩
theorem ch_inj {a b : Bool} (h : ch a = ch b) : a = b := by cases a <;> cases b <;> simp_all [ch]
theorem tx_len (bs : List Bool) : (tx bs).length = bs.length := by simp [tx, Str.length]
theorem tx_toList (bs : List Bool) : (tx bs).cps.toList = bs.map ch := by simp [tx]
theorem map_ch_inj : ∀ {a b : List Bool}, a.map ch = b.map ch → a = b
  | [], [], _ => rfl
  | [], _ :: _, h => by simp at h
  | _ :: _, [], h => by simp at h
  | x :: a, y :: b, h => by
    simp only [List.map_cons, List.cons.injEq] at h
    rw [ch_inj h.1, map_ch_inj h.2]
theorem tx_inj {a b : List Bool} : tx a = tx b ↔ a = b := by
  constructor
  · intro h
    have := congrArg (fun s : Str => s.cps.toList) h
    simp only [tx_toList] at this
    exact map_ch_inj this
  · rintro rfl; rfl
theorem tx_beq (a b : List Bool) : (tx a == tx b) = decide (a = b) := by
  by_cases h : a = b
  · subst h; simp
  · have : tx a ≠ tx b := fun e => h (tx_inj.mp e)
    simp [h, this]
theorem tx_append (a b : List Bool) : tx a ++ tx b = tx (a ++ b) := by
  show Str.append (tx a) (tx b) = _
  simp [Str.append, tx]
theorem tx_from (a : List Bool) {k : Int} (h0 : 0 ≤ k) (h1 : k ≤ a.length) : Txt.slice (tx a) (some k) none = tx (a.drop k.toNat) := by
  rw [slice_from_eq (b := a.length) h0 (by rw [tx_len]; exact h1) (by rw [tx_len])]
  rw [tx_toList, ← List.map_drop, ← List.map_take]
  rw [List.take_of_length_le (by simp; omega)]
  rfl
theorem tx_to (a : List Bool) {k : Int} (h0 : 0 ≤ k) (h1 : k ≤ a.length) : Txt.slice (tx a) none (some k) = tx (a.take k.toNat) := by
  have := slice_closes_toL (x := tx a) (j := k) h0 (by rw [tx_len]; exact h1)
  rw [beq_iff_eq] at this
  rw [this, tx_toList]
  simp [tx]
theorem tx_all (x : Str) : Txt.slice x none none = x := by
  unfold Txt.slice
  rw [if_pos]
  simp [PySem.Builtin.Str.strSliceIndices, sliceRange]
  split <;> simp <;> omega
theorem tx_to_neg (a : List Bool) {k : Int} (h0 : k < 0) (h1 : -k ≤ a.length) : Txt.slice (tx a) none (some k) = tx (a.take (a.length - (-k).toNat)) := by
  have e : Txt.slice (tx a) none (some k) = Txt.slice (tx a) none (some (k + a.length)) := by
    unfold Txt.slice
    have : PySem.Builtin.Str.strSliceIndices none (some k) 1 (tx a).length = PySem.Builtin.Str.strSliceIndices none (some (k + a.length)) 1 (tx a).length := by
      unfold PySem.Builtin.Str.strSliceIndices
      rw [tx_len]
      simp only [h0, if_true]
      rw [if_neg (show ¬ (k + (a.length : Int) < 0) by omega)]
    rw [this]
  rw [e, tx_to a (by omega) (by omega)]
  congr 2
  omega
theorem tx_item (a : List Bool) {k : Int} {b : Bool} (h0 : 0 ≤ k) (h1 : a[k.toNat]? = some b) : Txt.item (tx a) k = tx [b] := by
  have hlt : k.toNat < a.length := by
    have := List.getElem?_eq_some_iff.mp h1
    exact this.1
  unfold Txt.item Txt.charAt
  rw [tx_len]
  have e : seqIndex? k a.length = some k.toNat := by
    unfold seqIndex?
    simp only [if_neg (show ¬ k < 0 by omega)]
    rw [if_pos]
    simp; omega
  rw [e]
  simp [tx, h1]
theorem tx_item_neg (a : List Bool) {k : Int} {b : Bool} (h0 : k < 0) (h2 : -k ≤ a.length) (h1 : a[a.length - (-k).toNat]? = some b) : Txt.item (tx a) k = tx [b] := by
  unfold Txt.item Txt.charAt
  rw [tx_len]
  have e : seqIndex? k a.length = some (a.length - (-k).toNat) := by
    unfold seqIndex?
    simp only [if_pos h0]
    rw [if_pos]
    · congr 1; omega
    · simp; omega
  rw [e]
  simp [tx, h1]
end Mine
open PySem PySem.W PyProof.Rows PySem.Calls
set_option maxRecDepth 100000
namespace Mine
theorem execs_app_eq (env : Env) (l₂ : List Stmt) : ∀ l₁ : List Stmt, execs (l₁ ++ l₂) env = (execs l₁ env >>= fun f => match f with | .next => execs l₂ env | f => pure f)
  | [] => rfl
  | st :: r => by
    show execs (st :: (r ++ l₂)) env = _
    rw [execs_cons, execs_cons, bind_assoc]
    congr 1
    funext f
    cases f with
    | next => exact execs_app_eq env l₂ r
    | _ => rfl
section
variable {M : Model} {A : Around} {E : Value → Shared → Prop} {s : Shared} {env : Env}
theorem execs_cut (n : Nat) {l : List Stmt} {Q : Flow → Shared → Prop} (mid : Shared → Prop)
    (h1 : wpAny M A (execs (l.take n) env) (fun f s' => match f with | .next => mid s' | f => Q f s') E s)
    (h2 : ∀ s', mid s' → wpAny M A (execs (l.drop n) env) Q E s') : wpAny M A (execs l env) Q E s := by
  have e : execs l env = execs (l.take n ++ l.drop n) env := by rw [List.take_append_drop]
  rw [e, execs_app_eq]
  refine wpAny_bind (wpAny_mono h1 (fun f s' h => ?_) fun _ _ x => x)
  cases f with
  | next => exact h2 s' h
  | _ => exact wpAny_pure h
end
/-- what a def's body ends in: it hands back v, the frame and the ledger stand -/
noncomputable def RetP (s : Shared) (g : Heap) (L : Addr) (P : Value → List (Addr × Obj) → Prop) (fl : Flow) (s' : Shared) : Prop :=
  ∃ h tk m' news', s' = { s with heap := h, toks := tk } ∧ Fr g L h m' ∧ News g L h news' ∧ P (match fl with | .ret v => v | _ => .none) news'
theorem RetP.intro {s : Shared} {g h : Heap} {L : Addr} {P : Value → List (Addr × Obj) → Prop} {fl : Flow} {m : Str → Option Value} {news : List (Addr × Obj)} {tk : Nat} (F : Fr g L h m) (N : News g L h news) (hp : P (match fl with | .ret v => v | _ => .none) news) : RetP s g L P fl { s with heap := h, toks := tk } := ⟨h, tk, m, news, rfl, F, N, hp⟩
noncomputable def FnOk (prog : Program) (w : World) (K : Frag) (p : Program) (loose : List Str) (mean : ExcName → Option Value) (mg mb : Str → Option Value) (r : Nat) (f : Value) (news : List (Addr × Obj)) (args : List Value) (kw : List (Str × Value)) (P : Value → List (Addr × Obj) → Prop) : Prop :=
  ∀ (dp un : Nat) (gd : Option (List Code)) (cn : Str) (cs : Scope) (a : Addr) (ccd : Value) (cl : List (Str × Addr)) (outer : List Env) (A₀ : Around) (base h₀ : Heap) (L : Addr) (m : Str → Option Value) (s : Shared) (Q : Value → Shared → Prop) (E : Value → Shared → Prop),
    Below A₀ base outer h₀ → Fr h₀ L s.heap m → K.In h₀ → News h₀ L s.heap news → Top p loose mean mg mb h₀ → cs.kind = .function → dp + r < recursionLimit → un + 8 * r < cLine →
    (∀ v h' tk' news', P v news' → Fr h₀ L h' m → News h₀ L h' news' → Q v { s with heap := h', toks := tk' }) →
      wpAny (model prog w) (ktrTop dp un gd cn cs L a ccd cl outer) (call f args kw) Q E s
theorem FnOk.use {prog : Program} {w : World} {K : Frag} {p : Program} {loose : List Str} {mean : ExcName → Option Value} {mg mb : Str → Option Value} {r : Nat} {f : Value} {news : List (Addr × Obj)} {args : List Value} {kw : List (Str × Value)} {P : Value → List (Addr × Obj) → Prop}
    {dp un : Nat} {gd : Option (List Code)} {cn : Str} {cs : Scope} {a : Addr} {ccd : Value} {cl : List (Str × Addr)} {outer : List Env} {A₀ : Around} {base h₀ : Heap} {L : Addr} {m : Str → Option Value} {s : Shared} {Q : Value → Shared → Prop} {E : Value → Shared → Prop}
    (h : FnOk prog w K p loose mean mg mb r f news args kw P)
    (B : Below A₀ base outer h₀) (F : Fr h₀ L s.heap m) (X : K.In h₀) (N : News h₀ L s.heap news) (T : Top p loose mean mg mb h₀) (hk : cs.kind = .function) (hd : dp + r < recursionLimit) (hu : un + 8 * r < cLine)
    (k : ∀ v h' tk' news', P v news' → Fr h₀ L h' m → News h₀ L h' news' → Q v { s with heap := h', toks := tk' }) :
      wpAny (model prog w) (ktrTop dp un gd cn cs L a ccd cl outer) (call f args kw) Q E s := h _ _ _ _ _ _ _ _ _ _ _ _ _ _ _ _ _ B F X N T hk hd hu k
section
variable {prog : Program} {w : World} {K : Frag} {p : Program} {loose : List Str} {mean : ExcName → Option Value} {mg mb : Str → Option Value} {r : Nat} {f : Addr} {news : List (Addr × Obj)} {args : List Value} {kw : List (Str × Value)} {P : Value → List (Addr × Obj) → Prop}
  {name qual : Str} {params : Arguments} {body : List Stmt} {scope : Scope} {dV kV doc pm cdv ct oc : Value} {an od : Option Addr} {osl : Array (Option Value)} {binds : List (Str × Value)}
theorem FnOk.of_body
    (ho : K.lookup f = some ⟨oc, od, .func (fnOf name qual params body scope dV kV doc pm an cdv ct), osl⟩) (hcd : codeIn K cdv qual = true)
    (hbind : ∀ (s : Shared), K.In s.heap → BindsTo s (fnOf name qual params body scope dV kV doc pm an cdv ct) ⟨args, kw⟩ binds) (hloc : ∀ y ∈ binds, scope.names.lookup y.1 = some .local)
    (hr : 1 ≤ r)
    (h : ∀ (dp un : Nat) (gd : Option (List Code)) (cn : Str) (cs : Scope) (a : Addr) (ccd : Value) (cl : List (Str × Addr)) (outer : List Env) (base : Heap) (L : Addr) (g : Heap) (L' : Addr) (h₁ : Heap) (s : Shared) (tk : Nat),
      Fr g L' h₁ (fun y => binds.reverse.lookup y) → News g L' h₁ news → Below (ktrTop dp un gd cn cs L a ccd cl outer) base (envX cn cs L a ccd cl :: outer) g → K.In g → Top p loose mean mg mb g → dp + r < recursionLimit → un + 8 * r < cLine →
      wpAny (model prog w) ((ktrTop dp un gd cn cs L a ccd cl outer).deeper (envOf qual scope L' f cdv)) (execs body (envOf qual scope L' f cdv)) (RetP s g L' P) (fun _ _ => False) { s with heap := h₁, toks := tk })
    (hco : scope.isCoroutine = false) (hgen : scope.isGenerator = false) (hk : scope.kind = .function) (hcell : ∀ x ∈ scope.names, x.2 ≠ .cell) :
    FnOk prog w K p loose mean mg mb r (.ref f) news args kw P := by
  intro dp un gd cn cs a ccd cl outer A₀ base h₀ L m s Q E B F X N T hck hd hu hret
  refine wpAny_call ?_
  refine code_def B F X N T (env := envX cn cs L a ccd cl) rfl rfl hck ho hcd (by show dp < _; omega) (hbind s (X.keeps F.keep)) hloc ?_ hco hgen hk hcell
  intro g L' h₁ FG F' N' B' X' T'
  refine wpAny_mono (h dp un gd cn cs a ccd cl outer base L g L' h₁ s _ F' N' B' X' T' hd hu) (fun fl s' hp => ?_) fun _ _ x => x.elim
  obtain ⟨h, tk, m', news', rfl, F₂, N₂, hP⟩ := hp
  exact ⟨L', m', news', F₂, N₂, fun F₃ N₃ => hret _ _ _ _ hP F₃ N₃⟩
end
/-- a goal that the walk leaves alone -/
noncomputable def Box (P : Prop) : Prop := P
theorem Box.in {P : Prop} (h : P) : Box P := h
theorem Box.out {P : Prop} (h : Box P) : P := h
noncomputable def Mid (s : Shared) (g : Heap) (L : Addr) (news : List (Addr × Obj)) (ps : List (Str × Value)) (s' : Shared) : Prop :=
  ∃ h tk m, s' = { s with heap := h, toks := tk } ∧ Fr g L h (kstB m ps) ∧ News g L h news
theorem Mid.intro {s : Shared} {g h : Heap} {L : Addr} {news : List (Addr × Obj)} {m : Str → Option Value} {tk : Nat} {ps : List (Str × Value)} (F : Fr g L h m) (N : News g L h news) (hp : ∀ p ∈ ps, m p.1 = some p.2) :
    Mid s g L news ps { s with heap := h, toks := tk } := ⟨h, tk, m, rfl, by
      have : kstB m ps = m := by funext z; exact kstB_eq hp fun _ => rfl
      rw [this]; exact F, N⟩
theorem Mid.elim {s : Shared} {g : Heap} {L : Addr} {news : List (Addr × Obj)} {ps : List (Str × Value)} {s' : Shared} {P : Shared → Prop} (H : Mid s g L news ps s')
    (k : ∀ h tk m, Fr g L h (kstB m ps) → News g L h news → P { s with heap := h, toks := tk }) : P s' := by
  obtain ⟨h, tk, m, rfl, F, N⟩ := H
  exact k h tk m F N
theorem kstB_self {m : Str → Option Value} {ps : List (Str × Value)} (hp : ∀ p ∈ ps, m p.1 = some p.2) : kstB m ps = m := by funext z; exact kstB_eq hp fun _ => rfl
theorem Fr.ps {g h : Heap} {L : Addr} {m : Str → Option Value} {ps : List (Str × Value)} (F : Fr g L h m) (hp : ∀ p ∈ ps, m p.1 = some p.2) : Fr g L h (kstB m ps) := by rw [kstB_self hp]; exact F
noncomputable def LStep {σ : Type} (s : Shared) (g : Heap) (L : Addr) (Q : Flow → Shared → Prop) (I : Addr) (own : List (Addr × Obj)) (ps : σ → List (Str × Value)) (led : σ → List (Addr × Obj)) (J : σ → Prop) (f : Flow) (s₂ : Shared) : Prop :=
  match f with
  | .ret v => Q (.ret v) s₂
  | .brk => Q .next s₂
  | _ => Box (∃ c', J c' ∧ (∀ p ∈ led c', p.1 ≠ I) ∧ Mid s g L (led c' ++ own) (ps c') s₂)
section loops
variable {prog : Program} {w : World} {A : Around} {s : Shared} {env : Env} {g : Heap} {x : Str} {body : List Stmt} {Q : Flow → Shared → Prop}
theorem loopG {I : Addr} {fp : List Addr} {n : Nat} {P : Nat → Value → Prop} {St : Nat → Heap → Prop} {σ : Type} {m₀ : Str → Option Value}
    (ps : Nat → σ → List (Str × Value)) (led : Nat → σ → List (Addr × Obj)) (J : Nat → σ → Prop) (c₀ : σ)
    (W : Walks prog w A I fp [I] n P St) (hLf : env.locals ∉ fp) (hI : g.get? I = none) (hIs : ∀ i h, St i h → ∃ o, h.get? I = some o) (hst : St 0 s.heap)
    (F : Fr g env.locals s.heap (kstB m₀ (ps 0 c₀))) (N : News g env.locals s.heap (led 0 c₀)) (hoff : ∀ p ∈ led 0 c₀, p.1 ≠ I) (hj : J 0 c₀)
    (turn : ∀ i v c m h tk own, i < n → P i v → J i c → (∀ p ∈ led i c, p.1 ≠ I) → ((∃ o, (I, o) ∈ own) ∧ ∀ p ∈ own, p.1 ∈ fp) → Fr g env.locals h (kstB m ((x, v) :: ps i c)) → News g env.locals h (led i c ++ own) →
      wpAny (model prog w) A (execs body env) (LStep s g env.locals Q I own (ps (i + 1)) (led (i + 1)) (J (i + 1))) (fun _ _ => False) { s with heap := h, toks := tk })
    (done : ∀ c m h tk, J n c → Fr g env.locals h (kstB m (ps n c)) → News g env.locals h (led n c) → Q .next { s with heap := h, toks := tk }) :
    LoopAtV prog w A g env x body Q (fun _ _ => False) (.ref I) s := by
  refine ⟨I, fp, [I], n, P, St, _, _, (fun i m nx => ∃ c m', J i c ∧ nx = led i c ∧ m = kstB m' (ps i c)), rfl, W, hLf, ?_, ?_, hst, F, N, ⟨c₀, m₀, hj, rfl, rfl⟩, ?_, ?_⟩
  · intro b hb; rw [List.mem_singleton.mp hb]; exact hI
  · intro p hp h; exact hoff p hp (List.mem_singleton.mp h)
  · rintro i v m₁ news₁ s₁ own ⟨h, tk, rfl⟩ hin hP ⟨c, m', hJ, rfl, rfl⟩ hnw hown hlive hall hst₁ F₁ N₁
    have N₂ : News g env.locals h (led i c ++ own) := fun p hp => N₁ p ((List.mem_append.mp hp).elim (fun h => List.mem_append.mpr (.inr h)) fun h => List.mem_append.mpr (.inl h))
    obtain ⟨oI, hoI⟩ := hIs _ _ hst₁
    have hIo : (I, oI) ∈ own := hall I (W.sub I (List.mem_singleton.mpr rfl)) hI oI hoI
    refine wpAny_mono (turn i v c m' h tk own hin hP hJ (fun p hp q => hnw p hp (List.mem_singleton.mpr q)) ⟨⟨oI, hIo⟩, hown⟩ F₁ N₂) (fun f s₂ hq => ?_) fun _ _ x => x.elim
    have up : Box (∃ c', J (i + 1) c' ∧ (∀ p ∈ led (i + 1) c', p.1 ≠ I) ∧ Mid s g env.locals (led (i + 1) c' ++ own) (ps (i + 1) c') s₂) → LoopStepU g env.locals [I] own (fun m nx => ∃ c m', J (i + 1) c ∧ nx = led (i + 1) c ∧ m = kstB m' (ps (i + 1) c)) { s with heap := h, toks := tk } .next s₂ := by
      rintro ⟨c', hJ', hne, h', tk', m'', rfl, F', N'⟩
      exact ⟨rfl, h', tk', _, led (i + 1) c', rfl, F', fun p hp => N' p ((List.mem_append.mp hp).elim (fun h => List.mem_append.mpr (.inr h)) fun h => List.mem_append.mpr (.inl h)), fun p hp q => hne p hp (List.mem_singleton.mp q), c', m'', hJ', rfl, rfl⟩
    cases f with
    | ret v => exact .ret hq
    | brk => exact .brk hq
    | next => exact .next (up hq)
    | cont => exact .cont (up hq)
  · rintro h' tk m' news' F' N' _ ⟨c, m'', hJ, rfl, rfl⟩
    exact done c m'' h' tk hJ F' N'
theorem loopRange {σ : Type} {r : Addr} {a b : Int} {t u v : Tok} {n : Nat} {m₀ : Str → Option Value}
    (ps : Nat → σ → List (Str × Value)) (led : Nat → σ → List (Addr × Obj)) (J : Nat → σ → Prop) (c₀ : σ)
    (hh : A.handled = none) (hr : IsRange s.heap r a b 1 t u v) (hsmall : Builtin.Range.small a b 1 = true) (hn : Builtin.Range.rangeSize a b 1 = (n : Int))
    (F : Fr g env.locals s.heap (kstB m₀ (ps 0 c₀))) (N : News g env.locals s.heap (led 0 c₀)) (hj : J 0 c₀)
    (turn : ∀ i c t m h tk own I, i < n → J i c → (∀ p ∈ led i c, p.1 ≠ I) → ((∃ o, (I, o) ∈ own) ∧ ∀ p ∈ own, p.1 = I) → Fr g env.locals h (kstB m ((x, .int (a + (i : Int)) t) :: ps i c)) → News g env.locals h (led i c ++ own) →
      wpAny (model prog w) A (execs body env) (LStep s g env.locals Q I own (ps (i + 1)) (led (i + 1)) (J (i + 1))) (fun _ _ => False) { s with heap := h, toks := tk })
    (done : ∀ c m h tk, J n c → Fr g env.locals h (kstB m (ps n c)) → News g env.locals h (led n c) → Q .next { s with heap := h, toks := tk }) :
    wpAny (model prog w) A (pyIter (.ref r)) (fun it s₂ => LoopAtV prog w A g env x body Q (fun _ _ => False) it s₂) (fun _ _ => False) s := by
  refine wpAny_pyIter_range hr hsmall ?_
  have hI := next_is_new F
  refine loopG (s := { s with heap := _ }) ps led J c₀ (LCg.range_walks hh a n) ?_ hI (fun i h st => ⟨_, st⟩) (by show IsRangeIter _ _ _ _ _; rw [hn]; simpa using Heap.get?_push_size _ rfl) (F.push _) (fun p hp => ⟨Heap.get?_push_of_some _ (N p hp).1, (N p hp).2⟩) (fun p hp => Nat.ne_of_lt (Heap.lt_size (N p hp).1)) hj ?_ ?_
  · intro hm; exact absurd F.ns.lt ((List.mem_singleton.mp hm) ▸ Nat.lt_irrefl _)
  · rintro i v c m h tk own hi ⟨t, rfl⟩ hJ hoff hown F₁ N₁
    exact turn i c t m h tk own _ hi hJ hoff ⟨hown.1, fun p hp => List.mem_singleton.mp (hown.2 p hp)⟩ F₁ N₁
  · intro c m h tk hJ F₁ N₁
    exact done c m h tk hJ F₁ N₁
theorem loopRange0 {σ : Type} {r : Addr} {n : Nat} {t u v : Tok} {m₀ : Str → Option Value}
    (ps : Nat → σ → List (Str × Value)) (led : Nat → σ → List (Addr × Obj)) (J : Nat → σ → Prop) (c₀ : σ)
    (hh : A.handled = none) (hr : IsRange s.heap r 0 (n : Int) 1 t u v) (hn : n ≤ 1000)
    (F : Fr g env.locals s.heap (kstB m₀ (ps 0 c₀))) (N : News g env.locals s.heap (led 0 c₀)) (hj : J 0 c₀)
    (turn : ∀ i c t m h tk own I, i < n → J i c → (∀ p ∈ led i c, p.1 ≠ I) → ((∃ o, (I, o) ∈ own) ∧ ∀ p ∈ own, p.1 = I) → Fr g env.locals h (kstB m ((x, .int (i : Int) t) :: ps i c)) → News g env.locals h (led i c ++ own) →
      wpAny (model prog w) A (execs body env) (LStep s g env.locals Q I own (ps (i + 1)) (led (i + 1)) (J (i + 1))) (fun _ _ => False) { s with heap := h, toks := tk })
    (done : ∀ c m h tk, J n c → Fr g env.locals h (kstB m (ps n c)) → News g env.locals h (led n c) → Q .next { s with heap := h, toks := tk }) :
    wpAny (model prog w) A (pyIter (.ref r)) (fun it s₂ => LoopAtV prog w A g env x body Q (fun _ _ => False) it s₂) (fun _ _ => False) s := by
  refine loopRange (a := 0) (b := (n : Int)) ps led J c₀ hh hr (small_one (by omega) (by omega) (by omega) (by omega)) (by rw [rangeSize_one]; split <;> omega) F N hj (fun i c t m h tk own I hi hJ ho hw F₁ N₁ => ?_) done
  rw [Int.zero_add] at F₁
  exact turn i c t m h tk own I hi hJ ho hw F₁ N₁
theorem loopStr {σ : Type} {y : Str} {t : Tok} {m₀ : Str → Option Value}
    (ps : Nat → σ → List (Str × Value)) (led : Nat → σ → List (Addr × Obj)) (J : Nat → σ → Prop) (c₀ : σ)
    (hh : A.handled = none)
    (F : Fr g env.locals s.heap (kstB m₀ (ps 0 c₀))) (N : News g env.locals s.heap (led 0 c₀)) (hj : J 0 c₀)
    (turn : ∀ i k c t m h tk own I, y.cps[i]? = some k → J i c → (∀ p ∈ led i c, p.1 ≠ I) → ((∃ o, (I, o) ∈ own) ∧ ∀ p ∈ own, p.1 = I) → Fr g env.locals h (kstB m ((x, .str ⟨#[k]⟩ t) :: ps i c)) → News g env.locals h (led i c ++ own) →
      wpAny (model prog w) A (execs body env) (LStep s g env.locals Q I own (ps (i + 1)) (led (i + 1)) (J (i + 1))) (fun _ _ => False) { s with heap := h, toks := tk })
    (done : ∀ c m h tk, J y.cps.size c → Fr g env.locals h (kstB m (ps y.cps.size c)) → News g env.locals h (led y.cps.size c) → Q .next { s with heap := h, toks := tk }) :
    wpAny (model prog w) A (pyIter (.str y t)) (fun it s₂ => LoopAtV prog w A g env x body Q (fun _ _ => False) it s₂) (fun _ _ => False) s := by
  have hI := next_is_new F
  have key : ∀ (o : Obj) (St : Nat → Heap → Prop), o.isFreed = false → (∀ i h, St i h → ∃ o, h.get? s.heap.objs.size = some o) → Walks prog w A s.heap.objs.size [s.heap.objs.size] [s.heap.objs.size] y.cps.size (SignAt y) St → St 0 (s.heap.push o) →
      LoopAtV prog w A g env x body Q (fun _ _ => False) (.ref s.heap.objs.size) { s with heap := s.heap.push o } := by
    intro o St _ hIs W st
    refine loopG (s := { s with heap := _ }) ps led J c₀ W ?_ hI hIs st (F.push _) (fun p hp => ⟨Heap.get?_push_of_some _ (N p hp).1, (N p hp).2⟩) (fun p hp => Nat.ne_of_lt (Heap.lt_size (N p hp).1)) hj ?_ ?_
    · intro hm; exact absurd F.ns.lt ((List.mem_singleton.mp hm) ▸ Nat.lt_irrefl _)
    · rintro i v c m h tk own hi ⟨k, u, hk, rfl⟩ hJ hoff hown F₁ N₁
      exact turn i k c u m h tk own _ hk hJ hoff ⟨hown.1, fun p hp => List.mem_singleton.mp (hown.2 p hp)⟩ F₁ N₁
    · intro c m h tk hJ F₁ N₁
      exact done c m h tk hJ F₁ N₁
  cases ha : y.cps.all (· < 128)
  · exact wpAny_pyIter_wide ha (key _ _ rfl (fun i h st => let ⟨o, ho, _⟩ := st; ⟨o, ho⟩) (Walks.strWide hh _ y t) ⟨_, Heap.get?_push_size _ rfl, rfl, rfl⟩)
  · exact wpAny_pyIter_ascii ha (key _ _ rfl (fun i h st => let ⟨o, ho, _⟩ := st; ⟨o, ho⟩) (Walks.strAscii hh _ y t) ⟨_, Heap.get?_push_size _ rfl, rfl, rfl⟩)
theorem while_ps {σ : Type} {test : Expr} {pos : Pos} {m₀ : Str → Option Value} {L : Addr} (ps : σ → List (Str × Value)) (led : σ → List (Addr × Obj)) (P : σ → Prop) (μ : σ → Nat) (c₀ : σ)
    (F : Fr g L s.heap (kstB m₀ (ps c₀))) (N : News g L s.heap (led c₀)) (hP : P c₀)
    (turn : ∀ c m h tk, P c → Fr g L h (kstB m (ps c)) → News g L h (led c) →
      wpAny (model prog w) A (isTrue test env (eval test env)) (fun b s₂ => if b = true then wpAny (model prog w) A (execs body env)
        (fun f s₃ => match f with | .ret v => Q (.ret v) s₃ | .brk => Q .next s₃ | _ => Box (∃ c', P c' ∧ μ c' < μ c ∧ Mid s g L (led c') (ps c') s₃)) (fun _ _ => False) s₂ else Q .next s₂) (fun _ _ => False) { s with heap := h, toks := tk }) :
    wpAny (model prog w) A (exec (.While test body [] pos) env) Q (fun _ _ => False) s := by
  refine While_inv2 (fun n m nx => ∃ c m', P c ∧ μ c = n ∧ nx = led c ∧ m = kstB m' (ps c)) F N ⟨c₀, m₀, hP, rfl, rfl, rfl⟩ ?_ PassesOwn.never
  rintro n m₁ nx h tk F₁ N₁ ⟨c, m', hP', rfl, rfl, rfl⟩
  refine wpAny_mono (turn c m' h tk hP' F₁ N₁) (fun b s₂ hb => ?_) fun _ _ x => x
  cases b with
  | false => simpa using hb
  | true =>
    simp only [if_true] at hb ⊢
    refine wpAny_mono hb (fun f s₃ q => ?_) fun _ _ x => x
    cases f with
    | ret v => exact q
    | brk => exact q
    | next =>
      obtain ⟨c', hP2, hlt, h', tk', m'', rfl, F', N'⟩ := q
      exact ⟨h', tk', _, _, μ c', rfl, F', N', hlt, c', m'', hP2, rfl, rfl, rfl⟩
    | cont =>
      obtain ⟨c', hP2, hlt, h', tk', m'', rfl, F', N'⟩ := q
      exact ⟨h', tk', _, _, μ c', rfl, F', N', hlt, c', m'', hP2, rfl, rfl, rfl⟩
end loops
end Mine
open PySem PySem.W PyProof.Rows
namespace Mine
noncomputable def preLen : List Bool → List Bool → Nat
  | a :: as, b :: bs => if a = b then preLen as bs + 1 else 0
  | _, _ => 0
noncomputable def cost (a b : Bool) : Int := if a = b then 0 else 2
noncomputable def bigI : Int := 9223372036854775807
structure RowSt where
  d : Int
  r : Int
  nr : List Int
  mn : Int
noncomputable def stepR (bc : Bool) (st : RowSt) (p : Bool × Int) : RowSt :=
  let res := min (min st.r p.2 + 2) (st.d + cost bc p.1)
  ⟨p.2, res, st.nr ++ [res], if res < st.mn then res else st.mn⟩
noncomputable def rowR (bc : Bool) (as : List Bool) (row : List Int) (j : Int) : RowSt := (as.zip row).foldl (stepR bc) ⟨j * 2, j * 2, [], bigI⟩
noncomputable def outerF (as : List Bool) (mc : Int) : List Bool → Int → List Int → Int → Int
  | [], _, _, res => res
  | bc :: bs, j, row, _ => let st := rowR bc as row j; if mc < st.mn then mc + 1 else outerF as mc bs (j + 1) st.nr st.r
noncomputable def row0 (n : Nat) : List Int := (List.range n).map fun (i : Nat) => (2 + 2 * (i : Int))
noncomputable def levTail (a b : List Bool) (mc : Int) : Int :=
  if a = [] ∨ b = [] then 2 * ((a.length : Int) + (b.length : Int)) else
  let a3 := if b.length < a.length then b else a
  let b3 := if b.length < a.length then a else b
  if mc < ((b3.length : Int) - (a3.length : Int)) * 2 then mc + 1 else outerF a3 mc b3 0 (row0 a3.length) 0
noncomputable def cutSuf (a b : List Bool) : Nat := preLen a.reverse b.reverse
noncomputable def levF (a b : List Bool) (mc : Int) : Int :=
  if a = b then 0 else
  let n := preLen a b
  let a1 := a.drop n
  let b1 := b.drop n
  let k := cutSuf a1 b1
  levTail (a1.take (a1.length - k)) (b1.take (b1.length - k)) mc
theorem preLen_le : ∀ (a b : List Bool), preLen a b ≤ a.length ∧ preLen a b ≤ b.length
  | [], _ => by simp [preLen]
  | _ :: _, [] => by simp [preLen]
  | x :: a, y :: b => by
    have := preLen_le a b
    simp only [preLen]
    split <;> simp <;> omega
/-- the first place at which two texts part, or the shorter one's end -/
theorem preLen_eq : ∀ (a b : List Bool) (n : Nat), a.take n = b.take n → n ≤ a.length → n ≤ b.length →
    (n = a.length ∨ n = b.length ∨ a[n]? ≠ b[n]?) → preLen a b = n
  | [], b, n, _, h1, _, _ => by simp at h1; subst h1; simp [preLen]
  | _ :: _, [], n, _, _, h2, _ => by simp at h2; subst h2; simp [preLen]
  | x :: a, y :: b, 0, _, _, _, h => by
    simp at h
    simp [preLen, h]
  | x :: a, y :: b, n + 1, h, h1, h2, h3 => by
    simp only [List.take_succ_cons, List.cons.injEq] at h
    simp only [List.length_cons] at h1 h2 h3
    have := preLen_eq a b n h.2 (by omega) (by omega) (by simpa using h3)
    simp [preLen, h.1, this]
end Mine
namespace Mine
theorem neg_next (k : Nat) : -((k + 1 : Nat) : Int) = -(k : Int) - 1 := by omega
theorem sl_from_len {a : List Bool} {k : Nat} (hk : k ≤ a.length) : ((Txt.slice (tx a) (some (k : Int)) none).length : Int) = a.length - k := by
  rw [tx_from a (by omega) (by omega), tx_len, List.length_drop]
  omega
theorem itm_beq {a b : List Bool} {k : Nat} (h1 : k < a.length) (h2 : k < b.length) : (Txt.item (tx a) (k : Int) == Txt.item (tx b) (k : Int)) = decide (a[k]? = b[k]?) := by
  rw [tx_item a (k := (k : Int)) (b := a[k]) (by omega) (by simp [h1]), tx_item b (k := (k : Int)) (b := b[k]) (by omega) (by simp [h2]), tx_beq]
  simp [h1, h2]
theorem take_one_more {a b : List Bool} {k : Nat} (h : a.take k = b.take k) (h1 : a[k]? = b[k]?) : a.take (k + 1) = b.take (k + 1) := by
  rw [List.take_add_one, List.take_add_one, h, h1]
/-- the lengths of the cut tails -/
theorem sl_to_len {a : List Bool} {k : Nat} (hk : 1 ≤ k) (h : k ≤ a.length) : ((Txt.slice (tx a) none (some (-(k : Int)))).length : Int) = a.length - k := by
  rw [tx_to_neg a (by omega) (by omega), tx_len, List.length_take]
  omega
theorem rev_get {a : List Bool} {k : Nat} (h : k < a.length) : a[a.length - (-(-(k : Int) - 1)).toNat]? = a.reverse[k]? := by
  rw [List.getElem?_reverse h]
  congr 1
  omega
theorem itm_neg_beq {a b : List Bool} {k : Nat} (h1 : k < a.length) (h2 : k < b.length) : (Txt.item (tx a) (-(k : Int) - 1) == Txt.item (tx b) (-(k : Int) - 1)) = decide (a.reverse[k]? = b.reverse[k]?) := by
  have l1 : k < a.reverse.length := by simpa using h1
  have l2 : k < b.reverse.length := by simpa using h2
  rw [tx_item_neg a (k := -(k : Int) - 1) (b := a.reverse[k]) (by omega) (by omega) (by rw [rev_get h1]; exact List.getElem?_eq_getElem l1),
    tx_item_neg b (k := -(k : Int) - 1) (b := b.reverse[k]) (by omega) (by omega) (by rw [rev_get h2]; exact List.getElem?_eq_getElem l2), tx_beq]
  rw [List.getElem?_eq_getElem l1, List.getElem?_eq_getElem l2]
  simp
end Mine
namespace Mine
noncomputable def rowAt (bc : Bool) (a : List Bool) (R : List Int) (j : Int) (i : Nat) : RowSt := ((a.zip R).take i).foldl (stepR bc) ⟨j * 2, j * 2, [], bigI⟩
theorem rowAt_succ {bc : Bool} {a : List Bool} {R : List Int} {j : Int} {i : Nat} {x : Bool} {v : Int} (h1 : a[i]? = some x) (h2 : R[i]? = some v) : rowAt bc a R j (i + 1) = stepR bc (rowAt bc a R j i) (x, v) := by
  unfold rowAt
  have : (a.zip R)[i]? = some (x, v) := by
    obtain ⟨q1, rfl⟩ := List.getElem?_eq_some_iff.mp h1
    obtain ⟨q2, rfl⟩ := List.getElem?_eq_some_iff.mp h2
    rw [List.getElem?_eq_getElem (by rw [List.length_zip]; omega), List.getElem_zip]
  rw [List.take_add_one, this]
  simp [List.foldl_append]
theorem rowAt_full {bc : Bool} {a : List Bool} {R : List Int} {j : Int} (h : R.length = a.length) : rowAt bc a R j a.length = rowR bc a R j := by
  unfold rowAt rowR
  rw [List.take_of_length_le (by simp [h])]
theorem foldR_len (bc : Bool) : ∀ (l : List (Bool × Int)) (st : RowSt), (l.foldl (stepR bc) st).nr.length = st.nr.length + l.length
  | [], _ => by simp
  | p :: l, st => by
    rw [List.foldl_cons, foldR_len bc l]
    simp [stepR]
    omega
theorem rowAt_len {bc : Bool} {a : List Bool} {R : List Int} {j : Int} {i : Nat} (h1 : i ≤ a.length) (h : R.length = a.length) : (rowAt bc a R j i).nr.length = i := by
  unfold rowAt
  rw [foldR_len]
  simp [h]
  omega
theorem row_read {nr R : List Int} {i : Nat} (h : nr.length = i) : (nr ++ R.drop i)[i]? = R[i]? := by
  rw [List.getElem?_append_right (by omega), h, Nat.sub_self]
  simp
theorem row_write {nr R : List Int} {i : Nat} {r : Int} (h : nr.length = i) (hi : i < R.length) : (nr ++ R.drop i).set i r = (nr ++ [r]) ++ R.drop (i + 1) := by
  rw [List.set_append_right _ _ (by omega), h, Nat.sub_self, List.append_assoc]
  congr 1
  rw [List.drop_eq_getElem_cons hi, List.set_cons_zero]
  rfl
end Mine
namespace Mine
theorem res_min (r v d c : Int) : (if d + c < (if v < r then v else r) + 2 then d + c else (if v < r then v else r) + 2) = min (min r v + 2) (d + c) := by
  simp only [Int.min_def]
  repeat' split
  all_goals omega
theorem rowAt_d {bc : Bool} {a : List Bool} {R : List Int} {j : Int} {i : Nat} {x : Bool} {v : Int} (h : rowAt bc a R j (i + 1) = stepR bc (rowAt bc a R j i) (x, v)) : (rowAt bc a R j (i + 1)).d = v := by rw [h]; rfl
theorem rowAt_r {bc : Bool} {a : List Bool} {R : List Int} {j : Int} {i : Nat} {x : Bool} {v : Int} (h : rowAt bc a R j (i + 1) = stepR bc (rowAt bc a R j i) (x, v)) :
    (rowAt bc a R j (i + 1)).r = (if (rowAt bc a R j i).d + cost bc x < (if v < (rowAt bc a R j i).r then v else (rowAt bc a R j i).r) + 2 then (rowAt bc a R j i).d + cost bc x else (if v < (rowAt bc a R j i).r then v else (rowAt bc a R j i).r) + 2) := by rw [h, res_min]; rfl
theorem rowAt_mn {bc : Bool} {a : List Bool} {R : List Int} {j : Int} {i : Nat} {x : Bool} {v : Int} (h : rowAt bc a R j (i + 1) = stepR bc (rowAt bc a R j i) (x, v)) :
    (rowAt bc a R j (i + 1)).mn = (if (rowAt bc a R j (i + 1)).r < (rowAt bc a R j i).mn then (rowAt bc a R j (i + 1)).r else (rowAt bc a R j i).mn) := by rw [h]; rfl
theorem rowAt_nr {bc : Bool} {a : List Bool} {R : List Int} {j : Int} {i : Nat} {x : Bool} {v : Int} (h : rowAt bc a R j (i + 1) = stepR bc (rowAt bc a R j i) (x, v)) :
    (rowAt bc a R j (i + 1)).nr = (rowAt bc a R j i).nr ++ [(rowAt bc a R j (i + 1)).r] := by rw [h]; rfl
end Mine
open PySem PySem.W PyProof.Rows PySem.Calls
set_option maxRecDepth 100000
set_option maxHeartbeats 8000000
namespace Mine
theorem lower_tx (c : Bool) : Txt.lower (tx [c]) = tx [c] := by cases c <;> decide +kernel
theorem sub_spec (prog : Program) (w : World) (p : Program) (loose : List Str) (mean : ExcName → Option Value) (mg mb : Str → Option Value) (news : List (Addr × Obj)) (c d : Bool) (t1 t2 : Tok) :
   FnOk prog w (hd.heap_39 w.params) p loose mean mg mb 1 (.ref 28) news [.str (tx [c]) t1, .str (tx [d]) t2] [] (fun v n => n = news ∧ ∃ t, v = .int (cost c d) t) := by
  w_top off
  (k_dflt (refine' FnOk.of_body ?ho ?hcd ?hbind ?hloc ?hr ?_ ?c2 ?c3 ?c4 ?c5; (case ho => k_is); (case hcd => k_is); (case hbind => intro s9 X9; first | exact BindsTo.of_eq rfl | exact binds_K X9 rfl (by k_is) rfl rfl rfl); (case hloc => exact locs rfl); (case hr => decide); (case c5 => decide); (case c2 => exact rfl); (case c3 => exact rfl); (case c4 => exact rfl); k_whole))
  intro dp un gd cn cs a9 ccd cl outer base L g L' h₁ s tk F N B X T hdp hun
  clear hdp hun
  have l1 : (tx [c]).length = 1 := tx_len [c]
  have l2 : (tx [d]).length = 1 := tx_len [d]
  (try k_unmd); k_fold
  k_steps
  all_goals (
    simp only [lower_tx, tx_beq] at *
    refine RetP.intro (by k_asm) (by k_asm) ⟨rfl, _, congrArg (fun i => Value.int i _) ?_⟩
    cases c <;> cases d <;> simp_all [cost])
end Mine
open PySem PySem.W PyProof.Rows PySem.Calls
namespace Mine
theorem ints_of_get : ∀ {l : List Value} {ns : List Int}, l.length = ns.length → (∀ (j : Nat) v, l[j]? = some v → ∃ n t, ns[j]? = some n ∧ v = .int n t) → IntsAre l ns
  | [], [], _, _ => .nil
  | [], _ :: _, h, _ => by simp at h
  | _ :: _, [], h, _ => by simp at h
  | v :: l, n :: ns, h, hg => by
    obtain ⟨n', t, e1, rfl⟩ := hg 0 v rfl
    simp at e1
    subst e1
    exact .cons _ _ (ints_of_get (by simpa using h) fun j w hw => hg (j + 1) w (by simpa using hw))
section
variable {prog : Program} {w : World} {A : Around} {E : Value → Shared → Prop} {s : Shared} {h₀ : Heap} {L : Addr} {m : Str → Option Value} {Q : Value → Shared → Prop}
theorem list_range_N {r : Addr} {a b c : Int} {t u v : Tok} {n : Nat} {news : List (Addr × Obj)} {ns : List Int} (hh : A.handled = none) (F : Fr h₀ L s.heap m) (N : News h₀ L s.heap news)
    (hr : IsRange s.heap r a b c t u v) (hsmall : Builtin.Range.small a b c = true) (hn : Builtin.Range.rangeSize a b c = (n : Int)) (hlen : n ≤ 2 ^ 24) (hns : ns = (List.range n).map fun (j : Nat) => a + (j : Int) * c)
    (hQ : ∀ D k h' tk (ys : List Value), IntsAre ys ns → Fr h₀ L h' m → News h₀ L h' ((D, listOf ys.toArray k) :: news) → (∀ p ∈ news, p.1 < D) → Q (.ref D) { s with heap := h', toks := tk }) :
    wpAny (model prog w) A (call (.type "list") [.ref r]) Q E s := by
  refine call_list_range hh hr hsmall hn hlen fun h' tk acc' c' hk hS' hacc => ?_
  refine hQ _ c' h' tk acc'.toList (ints_of_get (by simp [hacc.1, hns]) fun j v hv => ?_) (F.keeps hk) (fun p hp => ?_) fun p hp => Heap.lt_size (N p hp).1
  · have hv' : acc'[j]? = some v := by simpa using hv
    obtain ⟨tk, rfl⟩ := hacc.2 j v hv'
    have hj : j < n := by
      have := (Array.getElem?_eq_some_iff.mp hv').1
      rw [hacc.1] at this; exact this
    exact ⟨_, tk, by simp [hns, hj], rfl⟩
  · rcases List.mem_cons.mp hp with rfl | hp
    · exact ⟨by simpa using hS', Nat.ne_of_gt F.ns.lt, next_is_new F⟩
    · exact ⟨hk _ _ (N p hp).1, (N p hp).2⟩
end
theorem range2_small {n : Nat} (h : n ≤ 1000) : Builtin.Range.small 2 (2 * ((n : Int) + 1)) 2 = true := by
  unfold Builtin.Range.small Builtin.Range.rangeSize Builtin.Range.rangeFitsLong
  simp only [Bool.and_eq_true, Bool.or_eq_true, decide_eq_true_eq, beq_iff_eq, show (2 : Int) > 0 by decide, if_true]
  split <;> omega
section
variable {prog : Program} {w : World} {A : Around} {E : Value → Shared → Prop} {s : Shared}
theorem item_tx {value slice : PySem.Expr} {a : List Bool} {i : Nat} {x : Bool} {t u : Tok} {Q : Value → Shared → Prop} (hx : a[i]? = some x) (hl : a.length ≤ 1000) (h : ∀ t' k, Q (.str (tx [x]) t') { s with toks := k })
    (hs : subscripted slice false (.str (tx a) t) (.int (i : Int) u) = operate [.str (tx a) t, .int (i : Int) u] (getItem (.str (tx a) t) (.int (i : Int) u)) := by with_unfolding_all rfl)
    (hg : ∀ r, letTemporaryGo value (.str (tx a) t) r = pure () := by intro _; with_unfolding_all rfl) :
    wpAny (model prog w) A (subscriptTail value slice (.str (tx a) t) (.int (i : Int) u)) Q E s := by
  have hi : i < a.length := (List.getElem?_eq_some_iff.mp hx).1
  refine item_str (fitsSsize_of (N := 9223372036854775808) (by omega) (by omega) (Int.le_refl _)) (by rw [tx_len]; omega) (by rw [tx_len]; omega) ?_ hs hg
  intro _
  rw [tx_item a (by omega) (by simpa using hx)]
  exact h _ _
end
theorem range2_size (n : Nat) : Builtin.Range.rangeSize 2 (2 * ((n : Int) + 1)) 2 = (n : Int) := by
  unfold Builtin.Range.rangeSize
  simp only [show (2 : Int) > 0 by decide, if_true]
  split <;> omega
end Mine
namespace Mine
theorem ki_setL_of : ∀ {l : List Value} {k : Nat} {v : Value}, k < l.length → ki_setL l k v = some (l.set k v)
  | [], _, _, h => by simp at h
  | x :: r, 0, v, _ => rfl
  | x :: r, k + 1, v, h => by
    have := ki_setL_of (l := r) (k := k) (v := v) (by simpa using h)
    simp [ki_setL, this]
section
variable {prog : Program} {w : World} {A : Around} {E : Value → Shared → Prop} {s : Shared} {h₀ : Heap} {L : Addr} {m : Str → Option Value}
theorem set_at {D : Addr} {zs : List Value} {n i : Nat} {t : Tok} {v : Value} {rest : List (Addr × Obj)} {Q : Unit → Shared → Prop} (F : Fr h₀ L s.heap m) (N : News h₀ L s.heap ((D, listOf zs.toArray n) :: rest)) (hU : ∀ p ∈ rest, p.1 ≠ D) (hi : i < zs.length) (hz : zs.length ≤ 1000)
    (h : ∀ h', Fr h₀ L h' m → News h₀ L h' ((D, listOf (zs.set i v).toArray n) :: rest) → Q () { s with heap := h' }) : wpAny (model prog w) A (setItem (.ref D) (.int (i : Int) t) v) Q E s :=
  ki_set F N (by omega) (by omega) (by simpa using ki_setL_of (v := v) hi) (.head hU) h
end
section
variable {prog : Program} {w : World} {A : Around} {E : Value → Shared → Prop} {s : Shared} {h₀ : Heap} {L : Addr}
theorem read_at {value slice : PySem.Expr} {D : Addr} {zs : List Value} {ns : List Int} {n i : Nat} {v : Int} {u : Tok} {rest : List (Addr × Obj)} {Q : Value → Shared → Prop} (N : News h₀ L s.heap ((D, listOf zs.toArray n) :: rest)) (hI : IntsAre zs ns) (hv : ns[i]? = some v) (hz : ns.length ≤ 1000) (h : ∀ t, Q (.int v t) s)
    (hs : subscripted slice false (.ref D) (.int (i : Int) u) = operate [.ref D, .int (i : Int) u] (getItem (.ref D) (.int (i : Int) u)) := by with_unfolding_all rfl) :
    wpAny (model prog w) A (subscriptTail value slice (.ref D) (.int (i : Int) u)) Q E s := by
  have hi : i < ns.length := (List.getElem?_eq_some_iff.mp hv).1
  refine ksa_sub N (List.mem_cons_self) hI (by omega) (by omega) (by omega) (fun t => ?_) hs
  have : ns.getD (i : Int).toNat 0 = v := by simp [List.getD_eq_getElem?_getD, hv]
  rw [this]
  exact h t
end
theorem ints_set : ∀ {zs : List Value} {ns : List Int} {i : Nat} {x : Int} {t : Tok}, IntsAre zs ns → IntsAre (zs.set i (.int x t)) (ns.set i x)
  | [], [], i, x, t, .nil => by simp; exact .nil
  | _ :: zs, _ :: ns, 0, x, t, .cons _ _ h => .cons _ _ h
  | _ :: zs, _ :: ns, i + 1, x, t, .cons _ _ h => .cons _ _ (ints_set h)
end Mine
open PySem PySem.W PyProof.Rows PySem.Calls
set_option maxRecDepth 100000
set_option maxHeartbeats 8000000
namespace Mine
noncomputable def fnB (i : Nat) : List Stmt := match PySem.Challenge.pw_pu0058_01.main.body[i]? with
  | some (.FunctionDef _ _ b _ _ _ _ _ _ _) => b
  | _ => []
noncomputable def fnS (i : Nat) : Scope := match PySem.Challenge.pw_pu0058_01.main.body[i]? with
  | some (.FunctionDef _ _ _ _ _ _ s _ _ _) => s
  | _ => default
local macro_rules | `(tactic| k_all) => `(tactic| (with_unfolding_all assumption))
local macro_rules | `(tactic| walk_at "pyIter ref") => `(tactic| refine Box.out ?_)
local macro_rules | `(tactic| walk_at "call type:list") => `(tactic| refine Box.out ?_)
local macro_rules | `(tactic| walk_at "subscriptTail Name Name str int") => `(tactic| (refine item_tx (by assumption) (by omega) ?_; intro _ _))
local macro_rules | `(tactic| walk_at "call ref") => `(tactic| refine Box.out ?_)
local macro_rules | `(tactic| walk_at "setItem ref int") => `(tactic| (k_dflt (refine' set_at ?F ?N ?U ?i ?z ?_; (case F => k_asm); (case N => k_asm); (case U => assumption); (case i => omega); (case z => omega)); intro h' F' N'; (try k_sweep)))
local macro_rules | `(tactic| walk_at "subscriptTail Name Name ref int") => `(tactic| (k_dflt (refine' read_at ?N ?I ?v ?z ?_; (case N => k_asm); (case I => assumption); (case v => assumption); (case z => omega)); intro _))
structure OutSt where
  ys : List Value
  R : List Int
  k : Nat
  r : Int
  t : Tok
theorem lev_rows (prog : Program) (w : World) (p : Program) (loose : List Str) (mean : ExcName → Option Value) (mg mb : Str → Option Value) (news : List (Addr × Obj)) (a b : List Bool) (ta tb : Tok) (mc : Int) (tm : Tok) (ha : a.length ≤ 10) (hb : b.length ≤ 10) (ha0 : a ≠ [])
    (dp un : Nat) (gd : Option (List Code)) (cn : Str) (cs : Scope) (a9 : Addr) (ccd : Value) (cl : List (Str × Addr)) (outer : List Env) (base : Heap) (L : Addr) (g : Heap) (L' : Addr) (s₀ s : Shared) (m : Str → Option Value)
    (F : Fr g L' s.heap (kstB m [("a", .str (tx a) ta), ("b", .str (tx b) tb), ("max_cost", .int mc tm)])) (N : News g L' s.heap news) (B : Below (ktrTop dp un gd cn cs L a9 ccd cl outer) base (envX cn cs L a9 ccd cl :: outer) g) (X : (hd.heap_39 w.params).In g) (T : Top p loose mean mg mb g) (hdp : dp + 3 < recursionLimit) (hun : un + 8 * 3 < cLine) 
    (hs : ∃ h tk, s = { s₀ with heap := h, toks := tk }) :
      wpAny (model prog w) ((ktrTop dp un gd cn cs L a9 ccd cl outer).deeper (envOf "_levenshtein_distance" (fnS 6) L' 35 (.ref 34))) (execs ((fnB 6).drop 13) (envOf "_levenshtein_distance" (fnS 6) L' 35 (.ref 34))) (RetP s₀ g L' (fun v n => n = news ∧ ∃ t, v = .int (outerF a mc b 0 (row0 a.length) 0) t)) (fun _ _ => False) s := by
  w_top off
  obtain ⟨hh, tkk, rfl⟩ := hs
  conv in (List.drop _ _) => whnf
  have la := tx_len a
  have lb := tx_len b
  refine execs_cut 2 (fun s' => Box (∃ D k ys t, (∀ p ∈ news, p.1 ≠ D) ∧ IntsAre ys (row0 a.length) ∧ Mid s₀ g L' ((D, W.listOf ys.toArray k) :: news) [("a", .str (tx a) ta), ("b", .str (tx b) tb), ("max_cost", .int mc tm), ("row", .ref D), ("result", .int 0 t)] s')) ?_ ?_
  · dsimp only [List.take]
    (try k_unmd); k_fold
    k_steps
    refine Box.in ?_
    rename IsRange _ _ _ _ _ _ _ _ => R5
    rename Fr _ _ _ _ => F5
    rename News _ _ _ _ => N5
    (with_unfolding_all refine list_range_N rfl F5 N5 R5 (range2_small (by omega)) (range2_size _) (by omega) rfl ?_)
    clear F5 N5 R5
    intro D9 k9 h9 tk9 ys9 hI9 F9 N9 l9
    (try dsimp only)
    k_steps
    rename IntsAre _ _ => hI
    rw [la] at hI
    rename (∀ _, _ → _ < _) => hlt
    exact ⟨_, _, _, _, fun p hp => Nat.ne_of_lt (hlt p hp), by simpa [row0, Int.mul_comm] using hI, Mid.intro (by k_asm) (by k_asm) (by kst_all)⟩
  clear F N
  refine fun s' ⟨D, k, ys, t, hD, hI', hM⟩ => Mid.elim hM ?_
  clear hM
  intro h2 tk2 m2 F N
  dsimp only [List.drop]
  (try k_unmd); k_fold
  k_steps
  rename Fr _ _ _ _ => F1
  rename News _ _ _ _ => N1
  rename IsRange _ _ _ _ _ _ _ _ => hR
  refine Box.in ?_
  refine loopRange0 (σ := OutSt) (n := (tx b).length) (fun j c => [("a", .str (tx a) ta), ("b", .str (tx b) tb), ("max_cost", .int mc tm), ("row", .ref D), ("result", .int c.r c.t)]) (fun j c => (D, W.listOf c.ys.toArray c.k) :: news)
    (fun j c => IntsAre c.ys c.R ∧ c.R.length = a.length ∧ outerF a mc b 0 (row0 a.length) 0 = outerF a mc (b.drop j) j c.R c.r) ⟨ys, _, _, 0, _⟩ rfl hR (by omega) F1 N1 ⟨hI', by simp [row0], rfl⟩ ?_ ?_
  · clear hR F1 N1 hI'
    rintro j ⟨ys, R, k, r, t⟩ tj m1 h1 tk1 own I hj ⟨hI, hlen, hout⟩ hoff hown F1 N1
    dsimp only at hI hlen hout hoff F1 N1
    k_sweep
    have hD1 : ∀ p ∈ own, p.1 ≠ D := fun p hp e => hoff _ (List.mem_cons_self) (by rw [← hown.2 p hp, e])
    obtain ⟨bc, hbc⟩ : ∃ bc, b[j]? = some bc := ⟨b[j], List.getElem?_eq_getElem (by omega)⟩
    have hIl := hI.length
    refine execs_cut 3 (fun s' => Box (∃ t1 t2 t3 t4, Mid s₀ g L' ((D, W.listOf ys.toArray k) :: news ++ own) [("a", .str (tx a) ta), ("b", .str (tx b) tb), ("max_cost", .int mc tm), ("row", .ref D), ("bchar", .str (tx [bc]) t1), ("distance", .int ((j : Int) * 2) t2), ("result", .int ((j : Int) * 2) t3), ("minimum", .int bigI t4)] s')) ?_ ?_
    · dsimp only [List.take]
      (try k_unmd); k_fold
      k_steps
      exact ⟨_, _, _, _, Mid.intro (by k_asm) (by k_asm) (by kst_all)⟩
    clear F1 N1
    refine fun s' ⟨t1, t2, t3, t4, hM⟩ => Mid.elim hM ?_
    clear hM
    intro h2 tk2 m2 F2 N2
    dsimp only [List.drop]
    (try k_unmd); k_fold
    k_steps
    rename Fr _ _ _ _ => F1
    rename News _ _ _ _ => N1
    rename IsRange _ _ _ _ _ _ _ _ => hR
    refine Box.in ?_
    refine loopRange0 (σ := List Value × Nat × Tok × Tok × Tok) (n := (tx a).length) (fun i c => [("a", .str (tx a) ta), ("b", .str (tx b) tb), ("max_cost", .int mc tm), ("row", .ref D), ("bchar", .str (tx [bc]) t1), ("distance", .int (rowAt bc a R j i).d c.2.2.1), ("result", .int (rowAt bc a R j i).r c.2.2.2.1), ("minimum", .int (rowAt bc a R j i).mn c.2.2.2.2)])
      (fun i c => (D, W.listOf c.1.toArray c.2.1) :: news ++ own)
      (fun i c => IntsAre c.1 ((rowAt bc a R j i).nr ++ R.drop i)) (ys, k, t2, t3, t4) rfl hR (by omega) F1 N1 (by simpa [rowAt] using hI) ?_ ?_
    · clear hR F1 N1
      rintro i ⟨zs, k1, td, tr, tn⟩ ti m3 h3 tk3 own2 I2 hi hZ hoff2 hown2 F1 N1
      dsimp only [kstB] at hZ hoff2 F1 N1
      k_sweep
      have hU : ∀ p ∈ news ++ own ++ own2, p.1 ≠ D := by
        intro p hp
        rcases List.mem_append.mp hp with hp | hp
        · exact (List.mem_append.mp hp).elim (hD p) (hD1 p)
        · intro e; exact hoff2 (D, W.listOf zs.toArray k1) (List.mem_cons_self) (by rw [← hown2.2 p hp, e])
      obtain ⟨x, hx⟩ : ∃ x, a[i]? = some x := ⟨a[i], List.getElem?_eq_getElem (by omega)⟩
      obtain ⟨v, hv⟩ : ∃ v, R[i]? = some v := ⟨R[i], List.getElem?_eq_getElem (by omega)⟩
      have hst := rowAt_succ (bc := bc) (j := j) hx hv
      have hnr : (rowAt bc a R j i).nr.length = i := rowAt_len (by omega) hlen
      have hrd : ((rowAt bc a R j i).nr ++ R.drop i)[i]? = some v := (row_read hnr).trans hv
      have hzl := hZ.length
      have hzl2 : ((rowAt bc a R j i).nr ++ R.drop i).length = a.length := by simp [hnr]; omega
      (try k_unmd); k_fold
      k_steps
      refine Box.in ?_
      rename Fr _ _ _ _ => F5
      rename News _ _ _ _ => N5
      refine FnOk.use (sub_spec _ _ _ _ _ _ _ _ _ _ _ _) B F5 X N5 T rfl (by ktr_room) (by ktr_units) ?_
      rintro v9 h9 tk9 n9 ⟨e9, t9, e8⟩ F9 N9
      subst e9
      subst e8
      clear F5 N5
      (try dsimp only)
      k_steps
      · rename _ < (rowAt bc a R j i).mn => hm
        have e1 := rowAt_d hst
        have e2 := rowAt_r hst
        have e3 := (rowAt_mn hst).trans (if_pos (by rw [e2]; exact hm))
        have e4 := rowAt_nr hst
        have hne : ∀ z : Value, ∀ p ∈ (D, W.listOf (zs.set i z).toArray k1) :: news ++ own, p.1 ≠ I2 := by
          intro z p hp
          rcases List.mem_cons.mp hp with rfl | hp
          · exact hoff2 (D, W.listOf zs.toArray k1) List.mem_cons_self
          · exact hoff2 _ (List.mem_cons_of_mem _ hp)
        refine' ⟨(zs.set i (.int (rowAt bc a R j (i + 1)).r _), k1, _, _, _), ?J, ?ne, ?M⟩
        case M => dsimp only; rw [e1, e3, e2]; exact Mid.intro (by k_asm) (by k_asm) (by kst_all)
        case J => dsimp only; rw [e4, ← row_write (R := R) (r := (rowAt bc a R j (i + 1)).r) hnr (by omega)]; exact ints_set hZ
        case ne => exact hne _
      · rename ¬ _ < (rowAt bc a R j i).mn => hm
        have e1 := rowAt_d hst
        have e2 := rowAt_r hst
        have e3 := (rowAt_mn hst).trans (if_neg (by rw [e2]; exact hm))
        have e4 := rowAt_nr hst
        have hne : ∀ z : Value, ∀ p ∈ (D, W.listOf (zs.set i z).toArray k1) :: news ++ own, p.1 ≠ I2 := by
          intro z p hp
          rcases List.mem_cons.mp hp with rfl | hp
          · exact hoff2 (D, W.listOf zs.toArray k1) List.mem_cons_self
          · exact hoff2 _ (List.mem_cons_of_mem _ hp)
        refine' ⟨(zs.set i (.int (rowAt bc a R j (i + 1)).r _), k1, _, _, _), ?J, ?ne, ?M⟩
        case M => dsimp only; rw [e1, e3, e2]; exact Mid.intro (by k_asm) (by k_asm) (by kst_all)
        case J => dsimp only; rw [e4, ← row_write (R := R) (r := (rowAt bc a R j (i + 1)).r) hnr (by omega)]; exact ints_set hZ
        case ne => exact hne _
    · clear hR F1 N1
      rintro ⟨zs, k1, td, tr, tn⟩ m3 h3 tk3 hZ F1 N1
      dsimp only at hZ F1 N1
      k_sweep
      rw [la] at hZ F1
      rw [rowAt_full hlen, List.drop_of_length_le (by omega), List.append_nil] at hZ
      rw [rowAt_full hlen] at F1
      have hnr : (rowR bc a R j).nr.length = a.length := by rw [← rowAt_full hlen]; exact rowAt_len (by omega) hlen
      dsimp only
      (try k_unmd)
      k_steps
      · rename mc < _ => hm
        refine ⟨_, _, _, _, rfl, by k_asm, cb_drop (by k_asm) (fun p hp => List.mem_cons_of_mem _ (List.mem_append_left _ hp)), rfl, _, congrArg (fun i => Value.int i _) ?_⟩
        rw [hout, List.drop_eq_getElem_cons (by omega : j < b.length)]
        obtain ⟨_, hb2⟩ := List.getElem?_eq_some_iff.mp hbc
        rw [hb2]
        show mc + 1 = if mc < (rowR bc a R j).mn then mc + 1 else _
        rw [if_pos hm]
      · rename ¬ mc < _ => hm
        refine ⟨⟨zs, (rowR bc a R j).nr, k1, (rowR bc a R j).r, _⟩, ⟨hZ, hnr, ?_⟩, ?_, Mid.intro (by k_asm) (by k_asm) (by kst_all)⟩
        · rw [hout, List.drop_eq_getElem_cons (by omega : j < b.length)]
          obtain ⟨_, hb2⟩ := List.getElem?_eq_some_iff.mp hbc
          rw [hb2]
          show (if mc < (rowR bc a R j).mn then mc + 1 else outerF a mc (b.drop (j + 1)) ((j : Int) + 1) (rowR bc a R j).nr (rowR bc a R j).r) = _
          rw [if_neg hm]
          rfl
        · intro p hp
          rcases List.mem_cons.mp hp with rfl | hp
          · exact hoff (D, W.listOf ys.toArray k) List.mem_cons_self
          · exact hoff _ (List.mem_cons_of_mem _ hp)
  · clear hR F1 N1 hI'
    rintro ⟨ys, R, k, r, t⟩ m1 h1 tk1 ⟨hI, hlen, hout⟩ F1 N1
    k_sweep
    rw [lb, List.drop_length] at hout
    dsimp only
    (try k_unmd)
    k_steps
    refine ⟨_, _, _, _, rfl, by k_asm, cb_drop (by k_asm) (fun p hp => List.mem_cons_of_mem _ hp), rfl, _, congrArg (fun i => Value.int i _) ?_⟩
    rw [hout]
    rfl
end Mine
local macro_rules | `(tactic| walk_at "mine pad") => `(tactic| skip)
local macro_rules | `(tactic| walk_at "mine pad") => `(tactic| skip)
local macro_rules | `(tactic| walk_at "mine pad") => `(tactic| skip)
local macro_rules | `(tactic| walk_at "mine pad") => `(tactic| skip)
local macro_rules | `(tactic| walk_at "mine pad") => `(tactic| skip)
local macro_rules | `(tactic| walk_at "mine pad") => `(tactic| skip)
local macro_rules | `(tactic| walk_at "mine pad") => `(tactic| skip)
local macro_rules | `(tactic| walk_at "mine pad") => `(tactic| skip)
open PySem PySem.W PyProof.Rows PySem.Calls
set_option maxRecDepth 100000
set_option maxHeartbeats 8000000
namespace Mine
local macro_rules | `(tactic| walk_at "exec While BoolOp") => `(tactic| refine Box.out ?_)
local macro_rules | `(tactic| walk_at "pyIter ref") => `(tactic| refine Box.out ?_)
local macro_rules | `(tactic| walk_at "truthy str") => `(tactic| ((with_reducible show PySem.wpAny _ _ (PySem.truthy (PySem.Value.str _ _)) _ _ _); refine SBL.truthy (by omega) ?_))
local macro_rules | `(tactic| walk_at "subscriptTail Name Slice str ref") => `(tactic| ((with_reducible show wpAny _ _ (subscriptTail _ (Expr.Slice none (some (Expr.BoolOp _ _ _)) none _) _ _) _ _ _); (with_reducible rename Fr _ _ _ _ => F'); (with_reducible rename News _ _ _ _ => N'); first
  | (refine slice_strN_nn_len (s := ⟨_, _, _, _, _⟩) F' N' ?_; intro _ _ _ _ _ _)
  | (refine slice_strN_ns_len (s := ⟨_, _, _, _, _⟩) F' N' ?_; intro _ _ _ _ _ _)))
theorem lev_spec (prog : Program) (w : World) (p : Program) (loose : List Str) (mean : ExcName → Option Value) (mg mb : Str → Option Value) (news : List (Addr × Obj)) (a : List Bool) (ta : Tok) (b : List Bool) (tb : Tok) (mc : Int) (tm : Tok) (ha : a.length ≤ 10) (hb : b.length ≤ 10):
   FnOk prog w (hd.heap_39 w.params) p loose mean mg mb 3 (.ref 35) news [.str (tx a) ta, .str (tx b) tb, .int mc tm] [] (fun v n => n = news ∧ ∃ t, v = .int (levF a b mc) t) := by
  w_top off
  (k_dflt (refine' FnOk.of_body ?ho ?hcd ?hbind ?hloc ?hr ?_ ?c2 ?c3 ?c4 ?c5; (case ho => k_is); (case hcd => k_is); (case hbind => intro s9 X9; first | exact BindsTo.of_eq rfl | exact binds_K X9 rfl (by k_is) rfl rfl rfl); (case hloc => exact locs rfl); (case hr => decide); (case c5 => decide); (case c2 => exact rfl); (case c3 => exact rfl); (case c4 => exact rfl); k_whole))
  intro dp un gd cn cs a9 ccd cl outer base L g L' h₁ s tk F N B X T hdp hun
  have la := tx_len a
  have lb := tx_len b
  -- the same text; the common head
  refine execs_cut 2 (fun s' => Box (a ≠ b ∧ ∃ t, Mid s g L' news [("pre", .int ((0 : Nat) : Int) t), ("a", .str (tx a) ta), ("b", .str (tx b) tb), ("max_cost", .int mc tm)] s')) ?_ ?_
  · dsimp only [List.take]
    clear hdp hun
    (try k_unmd); k_fold
    k_steps
    · rename (_ == _) = true => he
      have hab : a = b := by rw [tx_beq] at he; exact of_decide_eq_true he
      refine RetP.intro (by k_asm) (by k_asm) ⟨rfl, _, congrArg (fun i => Value.int i _) ?_⟩
      rw [levF, if_pos hab]
    · rename (_ == _) = false => he
      have hab : a ≠ b := by rw [tx_beq] at he; exact of_decide_eq_false he
      exact ⟨hab, _, Mid.intro (by k_asm) (by k_asm) (by kst_all)⟩
  refine fun s' ⟨hab, t, hM⟩ => Mid.elim hM ?_
  clear hM F N
  intro h2 tk2 m2 F N
  dsimp only [List.drop]
  refine execs_cut 1 (fun s' => Box (∃ t, Mid s g L' news [("pre", .int (preLen a b : Int) t), ("a", .str (tx a) ta), ("b", .str (tx b) tb), ("max_cost", .int mc tm)] s')) ?_ ?_
  · dsimp only [List.take]
    · clear hdp hun
      (try k_unmd); k_fold
      k_steps
      rename Fr _ _ _ _ => F1
      rename News _ _ _ _ => N1
      refine Box.in ?_
      have F2 := F1
      refine while_ps (σ := Nat × Tok) (fun c => [("pre", .int (c.1 : Int) c.2), ("a", .str (tx a) ta), ("b", .str (tx b) tb), ("max_cost", .int mc tm)]) (fun _ => news) (fun c => c.1 ≤ a.length ∧ c.1 ≤ b.length ∧ a.take c.1 = b.take c.1) (fun c => a.length - c.1) (0, _) F2 N1 ⟨by omega, by omega, by simp⟩ ?_
      clear F1 F2 N1
      rintro ⟨k, t⟩ m h tk ⟨h1, h2, h3⟩ F1 N1
      dsimp only at h1 h2 h3 F1 N1 ⊢
      have ea := sl_from_len h1
      have eb := sl_from_len h2
      (try k_unmd); k_fold
      k_steps
      · rename (_ == _) = true => hq
        have q1 : k < a.length := by omega
        have q2 : k < b.length := by omega
        rw [itm_beq q1 q2, decide_eq_true_eq] at hq
        exact ⟨(k + 1, _), ⟨q1, q2, take_one_more h3 hq⟩, Nat.sub_lt_sub_left q1 (Nat.lt_succ_self k), Mid.intro (by k_asm) (by k_asm) (by kst_all)⟩
      · rename (_ == _) = false => hq
        have q1 : k < a.length := by omega
        have q2 : k < b.length := by omega
        rw [itm_beq q1 q2, decide_eq_false_iff_not] at hq
        obtain rfl := preLen_eq a b k h3 h1 h2 (.inr (.inr hq))
        exact ⟨_, Mid.intro (by k_asm) (by k_asm) (by kst_all)⟩
      · obtain rfl := preLen_eq a b k h3 h1 h2 (.inr (.inl (by omega)))
        exact ⟨_, Mid.intro (by k_asm) (by k_asm) (by kst_all)⟩
      · obtain rfl := preLen_eq a b k h3 h1 h2 (.inl (by omega))
        exact ⟨_, Mid.intro (by k_asm) (by k_asm) (by kst_all)⟩
  refine fun s' ⟨t, hM⟩ => Mid.elim hM ?_
  clear hM F N
  intro h2 tk2 m2 F2 N2
  dsimp only [List.drop]
  have hp := preLen_le a b
  generalize hA : a.drop (preLen a b) = a1
  generalize hB : b.drop (preLen a b) = b1
  -- the common tail
  refine execs_cut 3 (fun s' => Box (∃ t1 t2 t3, Mid s g L' news [("post", .int (-((0 : Nat) : Int)) t1), ("a", .str (tx a1) t2), ("b", .str (tx b1) t3), ("max_cost", .int mc tm)] s')) ?_ ?_
  · dsimp only [List.take]
    clear hdp hun hab
    have e1 := tx_from a (k := (preLen a b : Int)) (by omega) (by omega)
    have e2 := tx_from b (k := (preLen a b : Int)) (by omega) (by omega)
    rw [Int.toNat_natCast, hA] at e1
    rw [Int.toNat_natCast, hB] at e2
    (try k_unmd); k_fold
    k_steps
    rename Fr _ _ _ _ => F1
    rw [e1, e2] at F1
    exact ⟨_, _, _, Mid.intro F1 (by k_asm) (by kst_all)⟩
  have l1 : a1.length ≤ 10 := by rw [← hA, List.length_drop]; omega
  have l2 : b1.length ≤ 10 := by rw [← hB, List.length_drop]; omega
  have la1 := tx_len a1
  have lb1 := tx_len b1
  clear la lb ha hb hp F2 N2
  refine fun s' ⟨t1, t2, t3, hM⟩ => Mid.elim hM ?_
  clear hM
  intro h2 tk2 m2 F2 N2
  dsimp only [List.drop]
  refine execs_cut 1 (fun s' => Box (∃ t1 t2 t3, Mid s g L' news [("post", .int (-(cutSuf a1 b1 : Int)) t1), ("a", .str (tx a1) t2), ("b", .str (tx b1) t3), ("max_cost", .int mc tm)] s')) ?_ ?_
  · dsimp only [List.take]
    clear hdp hun hab
    (try k_unmd); k_fold
    k_steps
    rename Fr _ _ _ _ => F1
    rename News _ _ _ _ => N1
    refine Box.in ?_
    have F3 := F1
    refine while_ps (σ := Nat × Tok) (fun c => [("post", .int (-(c.1 : Int)) c.2), ("a", .str (tx a1) _), ("b", .str (tx b1) _), ("max_cost", .int mc tm)]) (fun _ => news) (fun c => c.1 ≤ a1.length ∧ c.1 ≤ b1.length ∧ a1.reverse.take c.1 = b1.reverse.take c.1) (fun c => a1.length - c.1) (0, _) F3 N1 ⟨by omega, by omega, by simp⟩ ?_
    clear F1 F3 N1
    rintro ⟨k, t⟩ m h tk ⟨h1, h2, h3⟩ F1 N1
    dsimp only at h1 h2 h3 F1 N1 ⊢
    have r1 := List.length_reverse (as := a1)
    have r2 := List.length_reverse (as := b1)
    rcases Nat.eq_zero_or_pos k with hk | hk
    · have ea := congrArg Str.length (tx_all (tx a1))
      have eb := congrArg Str.length (tx_all (tx b1))
      (try k_unmd); k_fold
      k_steps
      all_goals try (exfalso; omega)
      · rename (_ == _) = true => hq
        have q1 : k < a1.length := by omega
        have q2 : k < b1.length := by omega
        rw [itm_neg_beq q1 q2, decide_eq_true_eq] at hq
        exact ⟨(k + 1, _), ⟨q1, q2, take_one_more h3 hq⟩, Nat.sub_lt_sub_left q1 (Nat.lt_succ_self k), Mid.intro (by k_asm) (by k_asm) (by rw [neg_next]; kst_all)⟩
      · rename (_ == _) = false => hq
        have q1 : k < a1.length := by omega
        have q2 : k < b1.length := by omega
        rw [itm_neg_beq q1 q2, decide_eq_false_iff_not] at hq
        obtain rfl : cutSuf a1 b1 = k := preLen_eq _ _ k h3 (by rw [r1]; exact h1) (by rw [r2]; exact h2) (.inr (.inr hq))
        exact ⟨_, _, _, Mid.intro (by k_asm) (by k_asm) (by kst_all)⟩
      · obtain rfl : cutSuf a1 b1 = k := preLen_eq _ _ k h3 (by rw [r1]; exact h1) (by rw [r2]; exact h2) (.inr (.inl (by rw [r2]; clear r1 r2; omega)))
        exact ⟨_, _, _, Mid.intro (by k_asm) (by k_asm) (by kst_all)⟩
      · obtain rfl : cutSuf a1 b1 = k := preLen_eq _ _ k h3 (by rw [r1]; exact h1) (by rw [r2]; exact h2) (.inl (by rw [r1]; clear r1 r2; omega))
        exact ⟨_, _, _, Mid.intro (by k_asm) (by k_asm) (by kst_all)⟩
    · have ea := sl_to_len hk h1
      have eb := sl_to_len hk h2
      (try k_unmd); k_fold
      k_steps
      all_goals try (exfalso; omega)
      · rename (_ == _) = true => hq
        have q1 : k < a1.length := by omega
        have q2 : k < b1.length := by omega
        rw [itm_neg_beq q1 q2, decide_eq_true_eq] at hq
        exact ⟨(k + 1, _), ⟨q1, q2, take_one_more h3 hq⟩, Nat.sub_lt_sub_left q1 (Nat.lt_succ_self k), Mid.intro (by k_asm) (by k_asm) (by rw [neg_next]; kst_all)⟩
      · rename (_ == _) = false => hq
        have q1 : k < a1.length := by omega
        have q2 : k < b1.length := by omega
        rw [itm_neg_beq q1 q2, decide_eq_false_iff_not] at hq
        obtain rfl : cutSuf a1 b1 = k := preLen_eq _ _ k h3 (by rw [r1]; exact h1) (by rw [r2]; exact h2) (.inr (.inr hq))
        exact ⟨_, _, _, Mid.intro (by k_asm) (by k_asm) (by kst_all)⟩
      · obtain rfl : cutSuf a1 b1 = k := preLen_eq _ _ k h3 (by rw [r1]; exact h1) (by rw [r2]; exact h2) (.inr (.inl (by rw [r2]; clear r1 r2; omega)))
        exact ⟨_, _, _, Mid.intro (by k_asm) (by k_asm) (by kst_all)⟩
      · obtain rfl : cutSuf a1 b1 = k := preLen_eq _ _ k h3 (by rw [r1]; exact h1) (by rw [r2]; exact h2) (.inl (by rw [r1]; clear r1 r2; omega))
        exact ⟨_, _, _, Mid.intro (by k_asm) (by k_asm) (by kst_all)⟩
  clear F2 N2
  refine fun s' ⟨t1, t2, t3, hM⟩ => Mid.elim hM ?_
  clear hM
  intro h3 tk3 m3 F3 N3
  dsimp only [List.drop]
  have hK : cutSuf a1 b1 ≤ a1.length ∧ cutSuf a1 b1 ≤ b1.length := by
    have := preLen_le a1.reverse b1.reverse
    rw [List.length_reverse, List.length_reverse] at this
    exact this
  have hlev : levF a b mc = levTail (a1.take (a1.length - cutSuf a1 b1)) (b1.take (b1.length - cutSuf a1 b1)) mc := by
    rw [levF, if_neg hab]
    dsimp only
    rw [hA, hB]
  rw [hlev]
  clear hlev
  generalize hA2 : a1.take (a1.length - cutSuf a1 b1) = a2
  generalize hB2 : b1.take (b1.length - cutSuf a1 b1) = b2
  refine execs_cut 2 (fun s' => Box (∃ t2 t3, Mid s g L' news [("a", .str (tx a2) t2), ("b", .str (tx b2) t3), ("max_cost", .int mc tm)] s')) ?_ ?_
  · dsimp only [List.take]
    clear hdp hun
    rcases Nat.eq_zero_or_pos (cutSuf a1 b1) with hk | hk
    · rw [hk, Nat.sub_zero, List.take_length] at hA2
      rw [hk, Nat.sub_zero, List.take_length] at hB2
      subst hA2 hB2
      have ea := tx_all (tx a1)
      have eb := tx_all (tx b1)
      (try k_unmd); k_fold
      k_steps
      all_goals try (exfalso; omega)
      rename Fr _ _ _ _ => F1
      rw [ea, eb] at F1
      exact ⟨_, _, Mid.intro F1 (by k_asm) (by kst_all)⟩
    · have ea := tx_to_neg a1 (k := -(cutSuf a1 b1 : Int)) (by omega) (by omega)
      have eb := tx_to_neg b1 (k := -(cutSuf a1 b1 : Int)) (by omega) (by omega)
      rw [Int.neg_neg, Int.toNat_natCast, hA2] at ea
      rw [Int.neg_neg, Int.toNat_natCast, hB2] at eb
      (try k_unmd); k_fold
      k_steps
      all_goals try (exfalso; omega)
      rename Fr _ _ _ _ => F1
      rw [ea, eb] at F1
      exact ⟨_, _, Mid.intro F1 (by k_asm) (by kst_all)⟩
  clear F3 N3
  refine fun s' ⟨t2, t3, hM⟩ => Mid.elim hM ?_
  clear hM
  intro h3 tk3 m3 F3 N3
  dsimp only [List.drop]
  have k1 : a2.length ≤ 10 := by rw [← hA2, List.length_take]; omega
  have k2 : b2.length ≤ 10 := by rw [← hB2, List.length_take]; omega
  clear l1 l2 la1 lb1 hK
  have la2 := tx_len a2
  have lb2 := tx_len b2
  generalize hA3 : (if b2.length < a2.length then b2 else a2) = a3
  generalize hB3 : (if b2.length < a2.length then a2 else b2) = b3
  refine execs_cut 4 (fun s' => Box (levTail a2 b2 mc = outerF a3 mc b3 0 (row0 a3.length) 0 ∧ a3 ≠ [] ∧ ∃ t2 t3, Mid s g L' news [("a", .str (tx a3) t2), ("b", .str (tx b3) t3), ("max_cost", .int mc tm)] s')) ?_ ?_
  · dsimp only [List.take]
    clear hdp hun
    (try k_unmd); k_fold
    k_steps
    · rename mc < _ => hq
      rename _ < ((tx a2).length : Int) => hl
      have hl' : b2.length < a2.length := by omega
      rw [if_pos hl'] at hA3 hB3
      refine RetP.intro (by k_asm) (cb_drop (by k_asm) (fun p hp => List.mem_cons_of_mem _ hp)) ⟨rfl, _, congrArg (fun i => Value.int i _) ?_⟩
      rw [levTail, if_neg (by rintro (rfl | rfl) <;> simp_all)]
      dsimp only
      rw [if_pos hl', if_pos hl', if_pos (by rw [← la2, ← lb2]; exact hq)]
    · rename ¬ mc < _ => hq
      rename _ < ((tx a2).length : Int) => hl
      have hl' : b2.length < a2.length := by omega
      rw [if_pos hl'] at hA3 hB3
      refine ⟨?_, ?_, _, _, Mid.intro (by k_asm) (cb_drop (by k_asm) (fun p hp => List.mem_cons_of_mem _ hp)) (by subst hA3 hB3; kst_all)⟩
      · rw [levTail, if_neg (by rintro (rfl | rfl) <;> simp_all)]
        dsimp only
        rw [if_pos hl', if_pos hl', if_neg (by rw [← la2, ← lb2]; exact hq), hA3, hB3]
      · rintro rfl; simp_all
    · rename mc < _ => hq
      rename ¬ _ < ((tx a2).length : Int) => hl
      have hl' : ¬ b2.length < a2.length := by omega
      rw [if_neg hl'] at hA3 hB3
      refine RetP.intro (by k_asm) (by k_asm) ⟨rfl, _, congrArg (fun i => Value.int i _) ?_⟩
      rw [levTail, if_neg (by rintro (rfl | rfl) <;> simp_all)]
      dsimp only
      rw [if_neg hl', if_neg hl', if_pos (by rw [← la2, ← lb2]; exact hq)]
    · rename ¬ mc < _ => hq
      rename ¬ _ < ((tx a2).length : Int) => hl
      have hl' : ¬ b2.length < a2.length := by omega
      rw [if_neg hl'] at hA3 hB3
      refine ⟨?_, ?_, _, _, Mid.intro (by k_asm) (by k_asm) (by subst hA3 hB3; kst_all)⟩
      · rw [levTail, if_neg (by rintro (rfl | rfl) <;> simp_all)]
        dsimp only
        rw [if_neg hl', if_neg hl', if_neg (by rw [← la2, ← lb2]; exact hq), hA3, hB3]
      · rintro rfl; simp_all
    · refine RetP.intro (by k_asm) (by k_asm) ⟨rfl, _, congrArg (fun i => Value.int i _) ?_⟩
      rw [levTail, if_pos (.inr (List.eq_nil_of_length_eq_zero (by omega))), la2, lb2]
    · refine RetP.intro (by k_asm) (by k_asm) ⟨rfl, _, congrArg (fun i => Value.int i _) ?_⟩
      rw [levTail, if_pos (.inl (List.eq_nil_of_length_eq_zero (by omega))), la2, lb2]
  clear F3 N3
  refine fun s' ⟨hlt, h3ne, t2, t3, hM⟩ => Mid.elim hM ?_
  clear hM
  intro h4 tk4 m4 F4 N4
  rw [hlt]
  have l3 : a3.length ≤ 10 := by rw [← hA3]; split <;> assumption
  have l4 : b3.length ≤ 10 := by rw [← hB3]; split <;> assumption
  exact lev_rows prog w p loose mean mg mb news a3 b3 t2 t3 mc tm l3 l4 h3ne dp un gd cn cs a9 ccd cl outer base L g L' s _ m4 F4 N4 B X T hdp hun ⟨_, _, rfl⟩
end Mine
local macro_rules | `(tactic| walk_at "mine pad") => `(tactic| skip)
local macro_rules | `(tactic| walk_at "mine pad") => `(tactic| skip)
local macro_rules | `(tactic| walk_at "mine pad") => `(tactic| skip)
local macro_rules | `(tactic| walk_at "mine pad") => `(tactic| skip)
local macro_rules | `(tactic| walk_at "mine pad") => `(tactic| skip)
open PySem PySem.W PyProof.Rows PySem.Calls
set_option maxRecDepth 100000
namespace Mine
section
variable {prog : Program} {w : World} {K : Frag} {p : Program} {loose : List Str} {mean : ExcName → Option Value} {mg mb : Str → Option Value} {r : Nat} {f C : Addr} {news : List (Addr × Obj)} {args : List Value} {P : Value → List (Addr × Obj) → Prop}
  {name qual : Str} {params : Arguments} {body : List Stmt} {scope : Scope} {dV kV doc pm cdv ct oc : Value} {an od : Option Addr} {osl : Array (Option Value)} {binds : Addr → List (Str × Value)}
theorem FnOk.of_class (hm : makesIn K C = true) (hi : findIn K (.ref C) "__init__" = some (some (.ref f))) (hf : isFn K (.ref f) = true)
    (ho : K.lookup f = some ⟨oc, od, .func (fnOf name qual params body scope dV kV doc pm an cdv ct), osl⟩) (hcd : codeIn K cdv qual = true)
    (hbind : ∀ (x : Addr) (s : Shared), K.In s.heap → BindsTo s (fnOf name qual params body scope dV kV doc pm an cdv ct) ⟨.ref x :: args, []⟩ (binds x)) (hloc : ∀ x, ∀ y ∈ binds x, scope.names.lookup y.1 = some .local)
    (hr : 2 ≤ r)
    (h : ∀ (dp un : Nat) (gd : Option (List Code)) (cn : Str) (cs : Scope) (a : Addr) (ccd : Value) (cl : List (Str × Addr)) (outer : List Env) (base : Heap) (L : Addr) (g : Heap) (L' : Addr) (h₁ : Heap) (s : Shared) (tk : Nat) (x dx : Addr),
      Fr g L' h₁ (fun y => (binds x).reverse.lookup y) → News g L' h₁ ((x, instObj C dx) :: (dx, dictOf [] 0) :: news) → (∀ p ∈ news, p.1 < dx) → dx < x → Below (ktrTop dp un gd cn cs L a ccd cl outer) base (envX cn cs L a ccd cl :: outer) g → K.In g → Top p loose mean mg mb g → dp + (r - 1) < recursionLimit → un + 8 * (r - 1) < cLine →
      wpAny (model prog w) ((ktrTop dp un gd cn cs L a ccd cl outer).deeper (envOf qual scope L' f cdv)) (execs body (envOf qual scope L' f cdv)) (RetP s g L' (fun v n => v = .none ∧ P (.ref x) n)) (fun _ _ => False) { s with heap := h₁, toks := tk })
    (hco : scope.isCoroutine = false) (hgen : scope.isGenerator = false) (hk : scope.kind = .function) (hcell : ∀ x ∈ scope.names, x.2 ≠ .cell) :
    FnOk prog w K p loose mean mg mb r (.ref C) news args [] P := by
  intro dp un gd cn cs a ccd cl outer A₀ base h₀ L m s Q E B F X N T hck hd hu hret
  refine call_cls F X N hm hi hf (fun x dx h' F1 N1 l1 l2 => ?_)
  refine code_def B F1 X N1 T (env := envX cn cs L a ccd cl) rfl rfl hck ho hcd (by show dp + 1 < _; omega) (hbind x _ (X.keeps F1.keep)) (hloc x) ?_ hco hgen hk hcell
  intro g L' h₁ FG F' N' B' X' T'
  refine wpAny_mono (h (dp + 1) (un + 1) _ cn cs a ccd cl outer base L g L' h₁ _ _ x dx F' N' l1 l2 B' X' T' (by omega) (by omega)) (fun fl s' hp => ?_) fun _ _ x => x.elim
  obtain ⟨h, tk, m', news', rfl, F₂, N₂, hv, hP⟩ := hp
  refine ⟨L', m', news', F₂, N₂, fun F₃ N₃ => ?_⟩
  exact ⟨hv, hret _ _ _ _ hP F₃ N₃⟩
end
end Mine
open PySem PySem.W PyProof.Rows
namespace Mine
structure WsD where
  count : List Int
  b : Nat
  n : Nat
  nt : Nat
noncomputable def padTo (c : List Int) (b : Nat) : List Int := if c.length ≤ b then c ++ List.replicate (b - c.length + 1) 0 else c
noncomputable def bump (c : List Int) (b : Nat) : List Int := (padTo c b).set b ((padTo c b).getD b 0 + 1)
noncomputable def wsStep (d : WsD) (t : Bool) : WsD := if t then ⟨bump d.count d.b, 0, d.n + 1, d.nt + 1⟩ else ⟨d.count, d.b + 1, d.n + 1, d.nt⟩
noncomputable def wsB (bs : List Bool) : WsD := bs.foldl wsStep ⟨[], 0, 0, 0⟩
theorem padTo_len (c : List Int) (b : Nat) : b < (padTo c b).length := by
  unfold padTo
  split
  · simp; omega
  · omega
theorem wsB_snoc {bs : List Bool} {i : Nat} {t : Bool} (h : bs[i]? = some t) : wsB (bs.take (i + 1)) = wsStep (wsB (bs.take i)) t := by
  unfold wsB
  rw [List.take_add_one, h]
  simp [List.foldl_append]
theorem wsStep_bound (d : WsD) (t : Bool) (m : Nat) (h1 : d.b + d.n ≤ 2 * m) (h2 : d.count.length ≤ m) (h3 : d.b ≤ m) (h4 : d.n ≤ m) (h5 : d.nt ≤ m) : (wsStep d t).count.length ≤ m + 1 ∧ (wsStep d t).b ≤ m + 1 ∧ (wsStep d t).n ≤ m + 1 ∧ (wsStep d t).nt ≤ m + 1 := by
  unfold wsStep
  cases t
  · simp; omega
  · simp only [if_true, bump, List.length_set, padTo]
    refine ⟨?_, by omega, by omega, by omega⟩
    split
    · simp; omega
    · omega
theorem wsB_bound : ∀ (i : Nat) (bs : List Bool), (wsB (bs.take i)).count.length ≤ i ∧ (wsB (bs.take i)).b ≤ i ∧ (wsB (bs.take i)).n ≤ i ∧ (wsB (bs.take i)).nt ≤ i
  | 0, bs => by simp [wsB]
  | i + 1, bs => by
    have ih := wsB_bound i bs
    cases h : bs[i]? with
    | none =>
      have : bs.take (i + 1) = bs.take i := by rw [List.take_add_one, h]; simp
      rw [this]
      omega
    | some t =>
      rw [wsB_snoc h]
      exact wsStep_bound _ t i (by omega) ih.1 ih.2.1 ih.2.2.1 ih.2.2.2
end Mine
namespace Mine
theorem allLt_mem {d : Nat} : ∀ {l : List (Addr × Obj)}, AllLt d l → ∀ p ∈ l, p.1 < d
  | [], _, _, h => nomatch h
  | q :: l, ⟨h1, h2⟩, p, h => by
    rcases List.mem_cons.mp h with rfl | h
    · exact h1
    · exact allLt_mem h2 p h
theorem drop2 {g h : Heap} {L : Addr} {a b : Addr × Obj} {r : List (Addr × Obj)} (N : News g L h (a :: b :: r)) : News g L h (a :: r) :=
  fun p hp => N p ((List.mem_cons.mp hp).elim (fun e => e ▸ List.mem_cons_self) fun h => List.mem_cons_of_mem _ (List.mem_cons_of_mem _ h))
theorem flatten_rep (n : Nat) : (List.replicate n [(0 : Int)]).flatten = List.replicate n 0 := by
  induction n with
  | zero => rfl
  | succ n ih => rw [List.replicate_succ, List.flatten_cons, ih]; rfl
theorem bump_pad {c : List Int} {b : Nat} (h : c.length ≤ b) (n : Nat) (hn : n = b - c.length + 1) :
    (c ++ (List.replicate n [(0 : Int)]).flatten).set b ((c ++ (List.replicate n [(0 : Int)]).flatten).getD b 0 + 1) = bump c b := by
  rw [flatten_rep, hn]
  simp only [bump, padTo, if_pos h]
theorem bump_in {c : List Int} {b : Nat} (h : ¬ c.length ≤ b) : c.set b (c.getD b 0 + 1) = bump c b := by
  simp only [bump, padTo, if_neg h]
end Mine
namespace Mine
theorem news_ne {g h : Heap} {L a b : Addr} {o1 o2 : Obj} {l : List (Addr × Obj)} (N : News g L h l) (h1 : (a, o1) ∈ l) (h2 : (b, o2) ∈ l) (hc : o1.cls ≠ o2.cls) : a ≠ b := by
  rintro rfl
  have e1 := (N _ h1).1
  have e2 := (N _ h2).1
  rw [e1] at e2
  cases e2
  exact hc rfl
end Mine
namespace Mine
/-- objects that no statement of the law stores into -/
noncomputable def CalmO (o : Obj) : Prop := (o.cls ≠ .type "cell" ∧ o.cls ≠ .type "list") ∧ o.cls ≠ .none ∧ ∀ c, o.data ≠ .cell c
noncomputable def Calm (W : List (Addr × Obj)) : Prop := ∀ p ∈ W, CalmO p.2
theorem Calm.nil : Calm [] := fun _ h => nomatch h
theorem Calm.cons {p : Addr × Obj} {W : List (Addr × Obj)} (h : CalmO p.2) (c : Calm W) : Calm (p :: W) := fun q hq => (List.mem_cons.mp hq).elim (fun e => e ▸ h) (c q)
theorem Calm.append {V W : List (Addr × Obj)} (a : Calm V) (b : Calm W) : Calm (V ++ W) := fun q hq => (List.mem_append.mp hq).elim (a q) (b q)
theorem Calm.ne {g h : Heap} {L d : Addr} {o : Obj} {l W : List (Addr × Obj)} (c : Calm W) (N : News g L h l) (hs : ∀ p ∈ W, p ∈ l) (hd : (d, o) ∈ l) (ho : o.cls = .type "cell" ∨ o.cls = .type "list") : ∀ p ∈ W, p.1 ≠ d := fun p hp => by
  obtain ⟨a, op⟩ := p
  refine news_ne N (hs _ hp) hd ?_
  have := (c _ hp).1
  rcases ho with ho | ho <;> rw [ho] <;> simp_all
/-- what a call makes lies behind all that stood -/
noncomputable def Fresh (W l : List (Addr × Obj)) : Prop := ∀ p ∈ W, ∀ q ∈ l, @LT.lt Nat _ q.1 p.1
theorem Fresh.nil {l : List (Addr × Obj)} : Fresh [] l := fun _ h => nomatch h
theorem Fresh.cons {p : Addr × Obj} {W l : List (Addr × Obj)} (h : ∀ q ∈ l, @LT.lt Nat _ q.1 p.1) (c : Fresh W l) : Fresh (p :: W) l := fun q hq => (List.mem_cons.mp hq).elim (fun e => e ▸ h) (c q)
theorem Fresh.ne {W l : List (Addr × Obj)} (h : Fresh W l) {q : Addr × Obj} (hq : q ∈ l) : ∀ p ∈ W, p.1 ≠ q.1 := fun p hp => Nat.ne_of_gt (h p hp q hq)
noncomputable abbrev wsE (P : Params) (n : Str) (k : Tok) (v : Value) : DictEntry := ⟨PyData.keyHash P n, .str n k, v⟩
noncomputable abbrev tupO (vs : List Value) : Obj := { cls := .type "tuple", data := .seq vs.toArray }
noncomputable def WsIn (P : Params) (W : List (Addr × Obj)) (x : Addr) (d : WsD) : Prop :=
  ∃ (dx D' D : Addr) (zs : List Value) (k0 k1 k2 k3 k4 t tn tt tb : Tok) (y : Str), (x, instObj 115 dx) ∈ W ∧
    (dx, dictOf [wsE P "raw" k0 (.str y t), wsE P "n" k1 (.int (d.n : Int) tn), wsE P "nt" k2 (.int (d.nt : Int) tt), wsE P "norm" k3 (.ref D'), wsE P "is_simple" k4 (.bool (decide ((d.count.length : Int) ≤ 1)))] 5) ∈ W ∧
    (D', tupO [.ref D, .int (d.b : Int) tb]) ∈ W ∧ (D, tupO zs) ∈ W ∧ IntsAre zs d.count
theorem WsIn.intro {P : Params} {W : List (Addr × Obj)} {x : Addr} {d : WsD} {dx D' D : Addr} {zs : List Value} {k0 k1 k2 k3 k4 t tn tt tb : Tok} {y : Str} (h1 : (x, instObj 115 dx) ∈ W)
    (h2 : (dx, dictOf [wsE P "raw" k0 (.str y t), wsE P "n" k1 (.int (d.n : Int) tn), wsE P "nt" k2 (.int (d.nt : Int) tt), wsE P "norm" k3 (.ref D'), wsE P "is_simple" k4 (.bool (decide ((d.count.length : Int) ≤ 1)))] 5) ∈ W)
    (h3 : (D', tupO [.ref D, .int (d.b : Int) tb]) ∈ W) (h4 : (D, tupO zs) ∈ W) (h5 : IntsAre zs d.count) : WsIn P W x d := ⟨dx, D', D, zs, k0, k1, k2, k3, k4, t, tn, tt, tb, y, h1, h2, h3, h4, h5⟩
theorem WsIn.elim {P : Params} {W : List (Addr × Obj)} {x : Addr} {d : WsD} {G : Prop} (h : WsIn P W x d)
    (k : ∀ (dx D' D : Addr) (zs : List Value) (k0 k1 k2 k3 k4 t tn tt tb : Tok) (y : Str), (x, instObj 115 dx) ∈ W →
      (dx, dictOf [wsE P "raw" k0 (.str y t), wsE P "n" k1 (.int (d.n : Int) tn), wsE P "nt" k2 (.int (d.nt : Int) tt), wsE P "norm" k3 (.ref D'), wsE P "is_simple" k4 (.bool (decide ((d.count.length : Int) ≤ 1)))] 5) ∈ W →
      (D', tupO [.ref D, .int (d.b : Int) tb]) ∈ W → (D, tupO zs) ∈ W → IntsAre zs d.count → G) : G := by
  obtain ⟨dx, D', D, zs, k0, k1, k2, k3, k4, t, tn, tt, tb, y, h1, h2, h3, h4, h5⟩ := h
  exact k dx D' D zs k0 k1 k2 k3 k4 t tn tt tb y h1 h2 h3 h4 h5
theorem WsIn.mono {P : Params} {V W : List (Addr × Obj)} {x : Addr} {d : WsD} (h : WsIn P V x d) (hs : ∀ p ∈ V, p ∈ W) : WsIn P W x d := by
  obtain ⟨dx, D', D, zs, k0, k1, k2, k3, k4, t, tn, tt, tb, y, h1, h2, h3, h4, h5⟩ := h
  exact ⟨dx, D', D, zs, k0, k1, k2, k3, k4, t, tn, tt, tb, y, hs _ h1, hs _ h2, hs _ h3, hs _ h4, h5⟩
end Mine
open PySem PySem.W PyProof.Rows PySem.Calls
set_option maxRecDepth 100000
set_option maxHeartbeats 8000000
namespace Mine
local macro_rules | `(tactic| k_all) => `(tactic| (with_unfolding_all assumption))
local macro_rules | `(tactic| walk_at "pyIter str") => `(tactic| refine Box.out ?_)
local macro_rules | `(tactic| walk_at "call type:tuple") => `(tactic| refine Box.out ?_)
noncomputable abbrev rawE (P : Params) (k : Tok) (y : Str) (t : Tok) : DictEntry := ⟨PyData.keyHash P "raw", .str "raw" k, .str y t⟩
theorem calm_inst (i d : Addr) : CalmO (instObj i d) := ⟨⟨(by intro e; cases e), (by intro e; cases e)⟩, (by intro e; cases e), (by intro c e; cases e)⟩
theorem calm_dict (es : List DictEntry) (k : Nat) : CalmO (dictOf es k) := ⟨⟨(by intro e; exact absurd (Value.type.inj e) (by decide)), (by intro e; exact absurd (Value.type.inj e) (by decide))⟩, (by intro e; cases e), (by intro c e; cases e)⟩
theorem calm_tup (vs : List Value) : CalmO (tupO vs) := ⟨⟨(by intro e; exact absurd (Value.type.inj e) (by decide)), (by intro e; exact absurd (Value.type.inj e) (by decide))⟩, (by intro e; cases e), (by intro c e; cases e)⟩
structure WsSt where
  D : Addr
  zs : List Value
  k : Nat
  tb : Tok
  tn : Tok
  tt : Tok
theorem drop3 {g h : Heap} {L : Addr} {a b c : Addr × Obj} {r : List (Addr × Obj)} (N : News g L h (a :: b :: c :: r)) : News g L h (a :: b :: r) :=
  fun p hp => (List.mem_cons.mp hp).elim (fun e => e ▸ N _ List.mem_cons_self) fun hp => (List.mem_cons.mp hp).elim (fun e => e ▸ N _ (.tail _ (.head _))) fun h => N p (.tail _ (.tail _ (.tail _ h)))
theorem drop3_eq (a b c d : Addr × Obj) (r : List (Addr × Obj)) : a :: b :: c :: d :: r = [a, b, c, d] ++ r := rfl
theorem ws_spec (prog : Program) (w : World) (p : Program) (loose : List Str) (mean : ExcName → Option Value) (mg mb : Str → Option Value) (news : List (Addr × Obj)) (y : Str) (t : Tok) (bs : List Bool) (hl : y.length ≤ 20)
    (hy : ∀ (i : Nat) b, bs[i]? = some b → y.cps[i]? = some (ch b)) (hy2 : ∀ k, y.cps[bs.length]? = some k → k ≠ 32 ∧ k ≠ 9) (hy3 : bs.length ≤ y.cps.size):
   FnOk prog w (hd.heap_39 w.params) p loose mean mg mb 3 (.ref 115) news [.str y t] [] (fun v n => ∃ x W, v = .ref x ∧ n = W ++ news ∧ (Calm W ∧ Fresh W news) ∧ WsIn w.params W x (wsB bs)) := by
  w_top off
  (k_dflt (refine' FnOk.of_class ?hm ?hi ?hf ?ho ?hcd ?hbind ?hloc ?hr ?_ ?c2 ?c3 ?c4 ?c5; (case hm => k_is); (case hi => k_is); (case hf => k_is); (case ho => k_is); (case hcd => k_is); (case hbind => intro x9 s9 X9; exact BindsTo.of_eq rfl); (case hloc => intro x9; exact locs rfl); (case hr => decide); (case c5 => decide); (case c2 => exact rfl); (case c3 => exact rfl); (case c4 => exact rfl); k_whole))
  intro dp un gd cn cs a9 ccd cl outer base L g L' h₁ s tk x dx F N l1 l2 B X T hdp hun
  clear hdp hun
  have l2' := ltN l2
  have hU : ∀ p ∈ news, p.1 ≠ dx := fun p hp => Nat.ne_of_lt (l1 p hp)
  refine execs_cut 4 (fun s' => Box (∃ k0 D tS tT tb tn tt, (x < D ∧ dx < D ∧ AllLt D news) ∧ Mid s g L' ((D, W.listOf #[] 0) :: (x, instObj 115 dx) :: (dx, dictOf [rawE w.params k0 y t] 1) :: news) [("self", .ref x), ("S", .str ⟨#[32]⟩ tS), ("T", .str ⟨#[9]⟩ tT), ("count", .ref D), ("b", .int ((0 : Nat) : Int) tb), ("n", .int ((0 : Nat) : Int) tn), ("nt", .int ((0 : Nat) : Int) tt)] s')) ?_ ?_
  · dsimp only [List.take]
    (try k_unmd); k_fold
    k_steps
    rename _ ∧ _ ∧ _ ∧ AllLt _ _ => hlt
    exact ⟨_, _, _, _, _, _, _, hlt.2, Mid.intro (by k_asm) (drop2 (by k_asm)) (by kst_all)⟩
  clear F N
  refine fun s' ⟨k0, D, tS, tT, tb, tn, tt, hD, hM⟩ => Mid.elim hM ?_
  clear hM
  intro h2 tk2 m2 F2 N2
  dsimp only [List.drop]
  have hys : y.cps.size ≤ 20 := hl
  have hbl : bs.length ≤ 20 := by omega
  -- the loop
  refine execs_cut 1 (fun s' => Box (∃ c : WsSt, IntsAre c.zs (wsB bs).count ∧ (x < c.D ∧ dx < c.D ∧ AllLt c.D news) ∧ Mid s g L' ((c.D, W.listOf c.zs.toArray c.k) :: (x, instObj 115 dx) :: (dx, dictOf [rawE w.params k0 y t] 1) :: news) [("self", .ref x), ("count", .ref c.D), ("b", .int ((wsB bs).b : Int) c.tb), ("n", .int ((wsB bs).n : Int) c.tn), ("nt", .int ((wsB bs).nt : Int) c.tt)] s')) ?_ ?_
  · dsimp only [List.take]
    (try k_unmd); k_fold
    k_steps
    refine Box.in ?_
    rename Fr _ _ _ _ => F1
    rename News _ _ _ _ => N1
    refine loopStr (σ := WsSt) (fun i c => [("self", .ref x), ("S", .str ⟨#[32]⟩ tS), ("T", .str ⟨#[9]⟩ tT), ("count", .ref c.D), ("b", .int ((wsB (bs.take i)).b : Int) c.tb), ("n", .int ((wsB (bs.take i)).n : Int) c.tn), ("nt", .int ((wsB (bs.take i)).nt : Int) c.tt)])
      (fun i c => (c.D, W.listOf c.zs.toArray c.k) :: (x, instObj 115 dx) :: (dx, dictOf [rawE w.params k0 y t] 1) :: news)
      (fun i c => i ≤ bs.length ∧ IntsAre c.zs (wsB (bs.take i)).count ∧ (x < c.D ∧ dx < c.D ∧ AllLt c.D news)) ⟨D, [], 0, tb, tn, tt⟩ rfl F1 N1 ⟨by omega, .nil, hD⟩ ?_ ?_
    · clear F1 N1
      rintro i k ⟨D1, zs, k1, tb1, tn1, tt1⟩ ti m1 h1 tk1 own I hk ⟨hi, hZ, hD1⟩ hoff hown F1 N1
      dsimp only [kstB] at hi hZ hD1 hoff F1 N1
      k_sweep
      have hzl := hZ.length
      have hb4 := wsB_bound i bs
      have hU2 : ∀ p ∈ (x, instObj 115 dx) :: (dx, dictOf [rawE w.params k0 y t] 1) :: news ++ own, p.1 ≠ D1 := by
        intro p hp
        rcases List.mem_append.mp (show p ∈ ((x, instObj 115 dx) :: (dx, dictOf [rawE w.params k0 y t] 1) :: news) ++ own from hp) with hp | hp
        · exact Nat.ne_of_lt (allLt_mem (d := D1) (l := (x, instObj 115 dx) :: (dx, dictOf [rawE w.params k0 y t] 1) :: news) hD1 p hp)
        · intro e; exact hoff (D1, W.listOf zs.toArray k1) List.mem_cons_self (by rw [← hown.2 p hp, e])
      have hoff1 : ∀ z k, ∀ p ∈ (D1, W.listOf z k) :: (x, instObj 115 dx) :: (dx, dictOf [rawE w.params k0 y t] 1) :: news, p.1 ≠ I := by
        intro z k p hp
        rcases List.mem_cons.mp hp with rfl | hp
        · exact hoff (D1, W.listOf zs.toArray k1) List.mem_cons_self
        · exact hoff p (List.mem_cons_of_mem _ hp)
      by_cases hlt : i < bs.length
      · obtain ⟨b0, hb0⟩ : ∃ b0, bs[i]? = some b0 := ⟨bs[i], List.getElem?_eq_getElem hlt⟩
        have hsn := wsB_snoc hb0
        have hk2 := hy i b0 hb0
        rw [hk] at hk2
        cases b0
        · obtain rfl : k = 32 := Option.some.inj hk2
          (try k_unmd); k_fold
          k_steps
          refine' ⟨⟨D1, zs, k1, _, _, _⟩, ⟨by omega, ?J, hD1⟩, hoff1 _ _, ?M⟩
          case M => dsimp only; rw [hsn]; exact Mid.intro (by k_asm) (by k_asm) (by kst_all)
          case J => rw [hsn]; exact hZ
        · obtain rfl : k = 9 := Option.some.inj hk2
          (try k_unmd); k_fold
          k_steps
          · rename IntsAre _ _ => hZ2
            rename _ ∧ _ ∧ AllLt _ _ => hlt2
            rename ((List.length _ : Nat) : Int) ≤ _ => hge
            rw [Int.toNat_natCast, bump_pad (by omega) _ (by omega)] at hZ2
            refine' ⟨⟨_, _, _, _, _, _⟩, ⟨by omega, ?J, ?D⟩, ?ne, ?M⟩
            case M => dsimp only; rw [hsn]; exact Mid.intro (by k_asm) (drop2 (drop2 (drop2 (by k_asm)))) (by kst_all)
            case J => rw [hsn]; exact hZ2
            case D =>
              have hm := allLt_mem hlt2.2.2
              exact ⟨hlt2.2.2.2.1, hlt2.2.2.2.2.1, allLt_of fun p hp => hm p (List.mem_cons_of_mem _ (List.mem_cons_of_mem _ (List.mem_cons_of_mem _ (List.mem_append_left _ hp))))⟩
            case ne =>
              intro p hp
              rcases List.mem_cons.mp hp with rfl | hp
              · obtain ⟨oI, hoI⟩ := hown.1
                exact Nat.ne_of_gt (allLt_mem hlt2.2.2 (I, oI) (List.mem_cons_of_mem _ (List.mem_cons_of_mem _ (List.mem_cons_of_mem _ (List.mem_append_right _ hoI)))))
              · exact hoff p (List.mem_cons_of_mem _ hp)
          · rename IntsAre _ _ => hZ2
            rename ¬ ((List.length _ : Nat) : Int) ≤ _ => hge
            rw [Int.toNat_natCast, bump_in (by omega)] at hZ2
            refine' ⟨⟨D1, _, _, _, _, _⟩, ⟨by omega, ?J, hD1⟩, hoff1 _ _, ?M⟩
            case M => dsimp only; rw [hsn]; exact Mid.intro (by k_asm) (by k_asm) (by kst_all)
            case J => rw [hsn]; exact hZ2
      · obtain rfl : i = bs.length := by omega
        obtain ⟨q1, q2⟩ := hy2 k hk
        have hq1 : ((⟨#[k]⟩ : Str) == ⟨#[32]⟩) = false := by simp [q1]
        have hq2 : ((⟨#[k]⟩ : Str) == ⟨#[9]⟩) = false := by simp [q2]
        (try k_unmd); k_fold
        k_steps
        rw [List.take_length] at hZ
        simp only [List.take_length] at F1
        dsimp only
        k_unfold
        dsimp only [LStep]
        (try k_unmd)
        k_steps
        exact ⟨⟨D1, zs, k1, _, _, _⟩, hZ, hD1, Mid.intro (by k_asm) (cb_drop (by k_asm) fun p hp => List.mem_append_left _ hp) (by kst_all)⟩
    · clear F1 N1
      rintro ⟨D1, zs, k1, tb1, tn1, tt1⟩ m1 h1 tk1 ⟨hi, hZ, hD1⟩ F1 N1
      have e : y.cps.size = bs.length := by omega
      rw [e, List.take_length] at hZ F1
      k_sweep
      (try k_unmd)
      k_steps
      exact ⟨⟨D1, zs, k1, _, _, _⟩, hZ, hD1, Mid.intro (by k_asm) (by k_asm) (by kst_all)⟩
  clear F2 N2
  refine fun s' ⟨⟨D1, zs, k1, tb1, tn1, tt1⟩, hZ, hD1, hM⟩ => Mid.elim hM ?_
  clear hM
  intro h3 tk3 m3 F3 N3
  dsimp only [List.drop]
  dsimp only [kstB] at hZ hD1 F3 N3
  have hzl := hZ.length
  have hb4 := wsB_bound bs.length bs
  rw [List.take_length] at hb4
  have q1 := ltN hD1.1
  have q2 := ltN hD1.2.1
  (try k_unmd); k_fold
  k_steps
  refine Box.in ?_
  rename Fr _ _ _ _ => F4
  rename News _ _ _ _ => N4
  k_dflt (refine' kde_tupleOf F4 N4 (News.isList N4 (by k_mem)) ?k4 rfl ?_)
  case k4 => rw [List.size_toArray]; omega
  clear F4 N4
  intro D' h' F' N' l1
  k_lt l1
  (try dsimp only)
  k_steps
  rename News _ _ _ _ => N4
  have q3 := neN (news_ne N4 (.tail _ (.head _)) (.tail _ (.tail _ (.tail _ (.tail _ (.head _))))) (by intro e; exact absurd (Value.type.inj e) (by decide)))
  k_steps
  rename News _ _ _ _ => N5
  refine RetP.intro (by k_asm) (drop3 N5) ⟨rfl, x, _, rfl, drop3_eq _ _ _ _ _, ⟨?_, ?_⟩, WsIn.intro (.tail _ (.tail _ (.head _))) (.tail _ (.tail _ (.tail _ (.head _)))) (.head _) (.tail _ (.head _)) hZ⟩
  · exact .cons (calm_tup _) (.cons (calm_tup _) (.cons (calm_inst _ _) (.cons (calm_dict _ _) .nil)))
  · rename _ < _ ∧ _ < _ ∧ _ < _ ∧ _ < _ ∧ AllLt _ news => q4
    have q5 := q4.2.2.2.2
    clear q4
    rename _ < _ ∧ _ < _ ∧ _ < _ ∧ AllLt _ news => q6
    have q7 := q6.2.2.2
    exact .cons (fun q hq => allLt_mem q5 q hq) (.cons (fun q hq => allLt_mem q7 q hq) (.cons (fun q hq => Nat.lt_trans (l1 q hq) l2) (.cons (fun q hq => l1 q hq) .nil)))
end Mine
local macro_rules | `(tactic| walk_at "mine pad") => `(tactic| skip)
local macro_rules | `(tactic| walk_at "mine pad") => `(tactic| skip)
local macro_rules | `(tactic| walk_at "mine pad") => `(tactic| skip)
local macro_rules | `(tactic| walk_at "mine pad") => `(tactic| skip)
open PySem PySem.W PyProof.Rows PySem.Calls
namespace Mine
noncomputable def ilAt (c : List Int) (ts k : Nat) : Int := ((List.range k).map fun j => (((ts + j) / ts : Nat) : Int) * c.getD (ts + j) 0).sum
theorem ilAt_succ (c : List Int) (ts k : Nat) : ilAt c ts (k + 1) = ilAt c ts k + (((ts + k) / ts : Nat) : Int) * c.getD (ts + k) 0 := by
  unfold ilAt
  rw [List.range_succ, List.map_append, List.sum_append]
  simp
noncomputable def indentF (d : WsD) (ts : Nat) : Int := (d.b : Int) + (ts : Int) * (ilAt d.count ts (d.count.length - ts) + (d.nt : Int))
section
variable {prog : Program} {w : World} {A : Around} {E : Value → Shared → Prop} {s : Shared} {h₀ : Heap} {L : Addr} {news : List (Addr × Obj)}
theorem len_tup {D : Addr} {zs : List Value} {ns : List Int} {Q : Value → Shared → Prop} (N : News h₀ L s.heap news) (hm : (D, tupO zs) ∈ news) (hI : IntsAre zs ns) (hz : ns.length ≤ 1000) (h : ∀ t k, Q (.int (ns.length : Int) t) { s with toks := k }) :
    wpAny (model prog w) A (call (.builtin "len") [.ref D]) Q E s := by
  have hl := hI.length
  refine len_tuple (News.isTup N hm) (by rw [List.size_toArray]; omega) ?_
  rw [List.size_toArray, hl]
  exact h _ _
theorem read_tup {value slice : PySem.Expr} {D : Addr} {zs : List Value} {ns : List Int} {i : Nat} {v : Int} {u : Tok} {Q : Value → Shared → Prop} (N : News h₀ L s.heap news) (hm : (D, tupO zs) ∈ news) (hI : IntsAre zs ns) (hv : ns[i]? = some v) (hz : ns.length ≤ 1000) (h : ∀ t, Q (.int v t) s)
    (hs : subscripted slice false (.ref D) (.int (i : Int) u) = operate [.ref D, .int (i : Int) u] (getItem (.ref D) (.int (i : Int) u)) := by with_unfolding_all rfl) :
    wpAny (model prog w) A (subscriptTail value slice (.ref D) (.int (i : Int) u)) Q E s := by
  have hi : i < ns.length := (List.getElem?_eq_some_iff.mp hv).1
  have hl := hI.length
  obtain ⟨t, ht⟩ := hI.get i v hv
  refine item_tupleT (News.isTup N hm) (by omega) (by omega) (j := i) ?_ ht (h t) hs
  unfold seqIndex?
  rw [if_neg (show ¬ ((i : Int) < 0) by omega), if_pos (by simp; omega)]
  rfl
end
end Mine
namespace Mine
theorem fdiv_nat (a b : Nat) : Int.fdiv (a : Int) (b : Int) = ((a / b : Nat) : Int) := by
  rw [Int.fdiv_eq_ediv_of_nonneg _ (by omega)]
  rfl
theorem bits_fdiv {a b : Nat} (h : a ≤ 1000) : Builtin.Int.intBits (Int.fdiv (a : Int) (b : Int)) ≤ 64 := by
  have := Nat.div_le_self a b
  rw [fdiv_nat]
  generalize a / b = q at this
  exact intBits_le_64 (by omega) (by omega)
end Mine
namespace Mine
noncomputable def longF (d : WsD) : Int := max ((d.count.length : Int) - 1) (d.b : Int)
noncomputable def simpleF (d : WsD) : Bool := decide ((d.count.length : Int) ≤ 1)
noncomputable def lessAll (d e : WsD) (k : Nat) : Bool := (List.range k).all fun i => decide (indentF d (2 + i) < indentF e (2 + i))
noncomputable def lessF (d e : WsD) : Bool :=
  if e.n ≤ d.n then false else if simpleF d && simpleF e then decide (d.nt ≤ e.nt) else lessAll d e (max (longF d) (longF e)).toNat
theorem lessAll_succ (d e : WsD) (k : Nat) : lessAll d e (k + 1) = (lessAll d e k && decide (indentF d (2 + k) < indentF e (2 + k))) := by
  unfold lessAll
  rw [List.range_succ, List.all_append]
  simp
theorem lessAll_no {d e : WsD} {k n : Nat} (h : k < n) (hk : ¬ indentF d (2 + k) < indentF e (2 + k)) : lessAll d e n = false := by
  unfold lessAll
  rw [List.all_eq_false]
  exact ⟨k, List.mem_range.mpr h, by simpa using hk⟩
end Mine
open PySem PySem.W PyProof.Rows PySem.Calls
set_option maxRecDepth 100000
set_option maxHeartbeats 8000000
namespace Mine
local macro_rules | `(tactic| walk_at "pyIter ref") => `(tactic| refine Box.out ?_)
local macro_rules | `(tactic| walk_at "call builtin:len") => `(tactic| (refine len_tup (by k_asm) (by k_mem) (by assumption) (by omega) ?_; intro _ _))
local macro_rules | `(tactic| walk_at "subscriptTail Name Name ref int") => `(tactic| (k_dflt (refine' read_tup ?N ?m ?I ?v ?z ?_; (case N => k_asm); (case m => k_mem); (case I => assumption); (case v => assumption); (case z => omega)); intro _))
local macro_rules | `(tactic| walk_at "binaryOp Mult int int") => `(tactic| first | (refine mul_int ?_ (IntMulOk.of_left (bits_fdiv (by omega)))) | (refine mul_int ?_ (IntMulOk.of_left (intBits_le_64 (by omega) (by omega)))))
theorem indent_spec (prog : Program) (w : World) (p : Program) (loose : List Str) (mean : ExcName → Option Value) (mg mb : Str → Option Value) (news : List (Addr × Obj)) (x : Addr) (d : WsD) (ts : Nat) (t : Tok) (hts : 2 ≤ ts) (hts2 : ts ≤ 20) (hx : WsIn w.params news x d) (hd1 : d.count.length ≤ 20) :
   FnOk prog w (hd.heap_39 w.params) p loose mean mg mb 1 (.ref 84) news [.ref x, .int (ts : Int) t] [] (fun v n => n = news ∧ ∃ t, v = .int (indentF d ts) t) := by
  w_top off
  refine WsIn.elim hx ?_
  intro dx D' D zs k0 k1 k2 k3 k4 t0 tn tt tb y h1 h2 h3 h4 hZ
  (k_dflt (refine' FnOk.of_body ?ho ?hcd ?hbind ?hloc ?hr ?_ ?c2 ?c3 ?c4 ?c5; (case ho => k_is); (case hcd => k_is); (case hbind => intro s9 X9; first | exact BindsTo.of_eq rfl | exact binds_K X9 rfl (by k_is) rfl rfl rfl); (case hloc => exact locs rfl); (case hr => decide); (case c5 => decide); (case c2 => exact rfl); (case c3 => exact rfl); (case c4 => exact rfl); k_whole))
  intro dp un gd cn cs a9 ccd cl outer base L g L' h₁ s tk F N B X T hdp hun
  clear hdp hun
  have hzl := hZ.length
  refine execs_cut 2 (fun s' => Box (∃ t1 t2, Mid s g L' news [("self", .ref x), ("tabsize", .int (ts : Int) t), ("count", .ref D), ("trailing", .int (d.b : Int) t1), ("il", .int 0 t2)] s')) ?_ ?_
  · dsimp only [List.take]
    (try k_unmd); k_fold
    k_steps
    exact ⟨_, _, Mid.intro (by k_asm) (by k_asm) (by kst_all)⟩
  clear F N
  refine fun s' ⟨t1, t2, hM⟩ => Mid.elim hM ?_
  clear hM
  intro h6 tk2 m2 F2 N2
  dsimp only [List.drop]
  (try k_unmd); k_fold
  k_steps
  rename Fr _ _ _ _ => F1
  rename News _ _ _ _ => N1
  rename IsRange _ _ _ _ _ _ _ _ => hR
  refine Box.in ?_
  refine loopRange (σ := Tok) (n := d.count.length - ts) (fun i c => [("self", .ref x), ("tabsize", .int (ts : Int) t), ("count", .ref D), ("trailing", .int (d.b : Int) t1), ("il", .int (ilAt d.count ts i) c)]) (fun _ _ => news) (fun _ _ => True) t2 rfl hR (small_one (by omega) (by omega) (by omega) (by omega)) (by rw [rangeSize_one]; split <;> omega) F1 N1 trivial ?_ ?_
  · clear hR F1 N1
    rintro i c ti m1 h1' tk1 own I hi - hoff hown F1 N1
    rw [← Int.natCast_add] at F1
    dsimp only [kstB] at F1
    k_sweep
    obtain ⟨v, hv⟩ : ∃ v, d.count[ts + i]? = some v := ⟨d.count[ts + i], List.getElem?_eq_getElem (by omega)⟩
    have hgd : d.count.getD (ts + i) 0 = v := by simp [List.getD_eq_getElem?_getD, hv]
    have hst := ilAt_succ d.count ts i
    rw [hgd] at hst
    (try k_unmd); k_fold
    k_steps
    refine' ⟨_, trivial, fun p hp => hoff p hp, ?M⟩
    case M => dsimp only; rw [hst, ← fdiv_nat]; exact Mid.intro (by k_asm) (by k_asm) (by kst_all)
  · clear hR F1 N1
    rintro c m1 h1' tk1 - F1 N1
    dsimp only [kstB] at F1
    k_sweep
    (try k_unmd)
    k_steps
    exact RetP.intro (by k_asm) (by k_asm) ⟨rfl, _, rfl⟩
theorem long_spec (prog : Program) (w : World) (p : Program) (loose : List Str) (mean : ExcName → Option Value) (mg mb : Str → Option Value) (news : List (Addr × Obj)) (x : Addr) (d : WsD) (hx : WsIn w.params news x d) (hd1 : d.count.length ≤ 20) :
   FnOk prog w (hd.heap_39 w.params) p loose mean mg mb 1 (.ref 77) news [.ref x] [] (fun v n => n = news ∧ ∃ t, v = .int (longF d) t) := by
  refine WsIn.elim hx ?_
  intro dx D' D zs k0 k1 k2 k3 k4 t0 tn tt tb y h1 h2 h3 h4 hZ
  (k_dflt (refine' FnOk.of_body ?ho ?hcd ?hbind ?hloc ?hr ?_ ?c2 ?c3 ?c4 ?c5; (case ho => k_is); (case hcd => k_is); (case hbind => intro s9 X9; first | exact BindsTo.of_eq rfl | exact binds_K X9 rfl (by k_is) rfl rfl rfl); (case hloc => exact locs rfl); (case hr => decide); (case c5 => decide); (case c2 => exact rfl); (case c3 => exact rfl); (case c4 => exact rfl); k_whole))
  intro dp un gd cn cs a9 ccd cl outer base L g L' h₁ s tk F N B X T hdp hun
  clear hdp hun
  have hzl := hZ.length
  (try k_unmd); k_fold
  k_steps
  refine RetP.intro (by k_asm) (by k_asm) ⟨rfl, _, congrArg (fun i => Value.int i _) ?_⟩
  unfold longF
  rw [Int.max_def]
  split <;> split <;> omega
end Mine
local macro_rules | `(tactic| walk_at "mine pad") => `(tactic| skip)
local macro_rules | `(tactic| walk_at "mine pad") => `(tactic| skip)
local macro_rules | `(tactic| walk_at "mine pad") => `(tactic| skip)
local macro_rules | `(tactic| walk_at "mine pad") => `(tactic| skip)
local macro_rules | `(tactic| walk_at "mine pad") => `(tactic| skip)
open PySem PySem.W PyProof.Rows PySem.Calls
set_option maxRecDepth 100000
set_option maxHeartbeats 8000000
namespace Mine
local macro_rules | `(tactic| walk_at "pyIter ref") => `(tactic| refine Box.out ?_)
local macro_rules | `(tactic| walk_at "call ref") => `(tactic| (k_dflt (first
  | refine FnOk.use (long_spec _ _ _ _ _ _ _ _ _ _ (by assumption) (by omega)) (by k_asm) (by k_asm) (by k_asm) (by k_asm) (by k_asm) rfl (by ktr_room) (by ktr_units) ?_
  | refine FnOk.use (indent_spec _ _ _ _ _ _ _ _ _ _ _ _ (by omega) (by omega) (by assumption) (by omega)) (by k_asm) (by k_asm) (by k_asm) (by k_asm) (by k_asm) rfl (by ktr_room) (by ktr_units) ?_); rintro v9 h9 tk9 n9 ⟨e9, t9, e8⟩ F9 N9; rw [e9] at N9; clear e9; subst e8; (try k_sweep)))
theorem max_if (a b : Int) : max a b = if b > a then b else a := by rw [Int.max_def]; split <;> split <;> omega
theorem less_spec (prog : Program) (w : World) (p : Program) (loose : List Str) (mean : ExcName → Option Value) (mg mb : Str → Option Value) (news : List (Addr × Obj)) (x x' : Addr) (d e : WsD) (hx : WsIn w.params news x d) (hx' : WsIn w.params news x' e) (hd1 : d.count.length ≤ 15) (he1 : e.count.length ≤ 15) (hd2 : d.b ≤ 15) (he2 : e.b ≤ 15) :
   FnOk prog w (hd.heap_39 w.params) p loose mean mg mb 3 (.ref 105) news [.ref x, .ref x'] [] (fun v n => n = news ∧ v = .bool (lessF d e)) := by
  w_top off
  have hx0 := hx
  have hx0' := hx'
  refine WsIn.elim hx ?_
  intro dx D' D zs k0 k1 k2 k3 k4 t0 tn tt tb y h1 h2 h3 h4 hZ
  refine WsIn.elim hx' ?_
  intro dx' D2' D2 zs' k0' k1' k2' k3' k4' t0' tn' tt' tb' y' h1' h2' h3' h4' hZ'
  (k_dflt (refine' FnOk.of_body ?ho ?hcd ?hbind ?hloc ?hr ?_ ?c2 ?c3 ?c4 ?c5; (case ho => k_is); (case hcd => k_is); (case hbind => intro s9 X9; first | exact BindsTo.of_eq rfl | exact binds_K X9 rfl (by k_is) rfl rfl rfl); (case hloc => exact locs rfl); (case hr => decide); (case c5 => decide); (case c2 => exact rfl); (case c3 => exact rfl); (case c4 => exact rfl); k_whole))
  intro dp un gd cn cs a9 ccd cl outer base L g L' h₁ s tk F N B X T hdp hun
  refine execs_cut 3 (fun s' => Box (e.n > d.n ∧ (simpleF d && simpleF e) = false ∧ ∃ t1, Mid s g L' news [("self", .ref x), ("other", .ref x'), ("n", .int (max (longF d) (longF e) + 1) t1)] s')) ?_ ?_
  · dsimp only [List.take]
    (try k_unmd); k_fold
    k_steps
    · rename (_ : Int) ≤ _ => hq
      refine RetP.intro (by k_asm) (by k_asm) ⟨rfl, congrArg Value.bool ?_⟩
      rw [lessF, if_pos (by omega)]
    · rename ¬ ((e.n : Int) ≤ _) => hq
      rename ((e.count.length : Int) ≤ 1) => hq1
      rename ((d.count.length : Int) ≤ 1) => hq2
      refine RetP.intro (by k_asm) (by k_asm) ⟨rfl, congrArg Value.bool ?_⟩
      rw [lessF, if_neg (by omega), simpleF, simpleF, decide_eq_true hq2, decide_eq_true hq1]
      simp
    · rename ¬ ((e.n : Int) ≤ _) => hq
      rename ¬ ((e.count.length : Int) ≤ 1) => hq1
      refine' ⟨by omega, by simp [simpleF, hq1], _, ?M⟩
      case M => rw [max_if]; exact Mid.intro (by k_asm) (by k_asm) (by kst_all)
    · rename ¬ ((e.n : Int) ≤ _) => hq
      rename ¬ ((d.count.length : Int) ≤ 1) => hq1
      refine' ⟨by omega, by simp [simpleF, hq1], _, ?M⟩
      case M => rw [max_if]; exact Mid.intro (by k_asm) (by k_asm) (by kst_all)
  clear F N
  refine fun s' ⟨hn, hs, t1, hM⟩ => Mid.elim hM ?_
  clear hM
  intro h6 tk2 m2 F2 N2
  dsimp only [List.drop]
  have hm : lessF d e = lessAll d e (max (longF d) (longF e)).toNat := by rw [lessF, if_neg (by omega), hs]; rfl
  have hb1 : -1 ≤ longF d ∧ longF d ≤ 15 := by unfold longF; omega
  have hb2 : -1 ≤ longF e ∧ longF e ≤ 15 := by unfold longF; omega
  have hb3 : 0 ≤ max (longF d) (longF e) ∧ max (longF d) (longF e) ≤ 15 := by unfold longF; omega
  rw [hm]
  generalize max (longF d) (longF e) = M at hb3 hm F2
  (try k_unmd); k_fold
  k_steps
  rename Fr _ _ _ _ => F1
  rename News _ _ _ _ => N1
  rename IsRange _ _ _ _ _ _ _ _ => hR
  refine Box.in ?_
  refine loopRange (σ := Unit) (n := M.toNat) (fun i c => [("self", .ref x), ("other", .ref x')]) (fun _ _ => news) (fun i _ => lessAll d e i = true) () rfl hR (small_one (by omega) (by omega) (by omega) (by omega)) (by rw [rangeSize_one]; split <;> omega) (Mine.Fr.ps F1 (by kst_all)) N1 rfl ?_ ?_
  · clear hR F1 N1
    rintro i ⟨⟩ ti m1 h1' tk1 own I hi hj hoff hown F1 N1
    rw [show (2 : Int) + (i : Int) = ((2 + i : Nat) : Int) by omega] at F1
    dsimp only [kstB] at F1
    k_sweep
    have hx1 := hx0.mono (W := news ++ own) fun p hp => List.mem_append_left _ hp
    have hx1' := hx0'.mono (W := news ++ own) fun p hp => List.mem_append_left _ hp
    (try k_unmd); k_fold
    k_steps
    · rename indentF e (2 + i) ≤ _ => hq
      refine ⟨_, _, _, _, rfl, by k_asm, cb_drop (by k_asm) (fun p hp => List.mem_append_left _ hp), rfl, congrArg Value.bool ?_⟩
      rw [lessAll_no hi (by omega)]
    · rename ¬ indentF e (2 + i) ≤ _ => hq
      exact ⟨(), by rw [lessAll_succ, hj]; simp; omega, fun p hp => hoff p hp, Mid.intro (by k_asm) (by k_asm) (by kst_all)⟩
  · clear hR F1 N1
    rintro ⟨⟩ m1 h1' tk1 hj F1 N1
    dsimp only [kstB] at F1
    k_sweep
    (try k_unmd)
    k_steps
    exact RetP.intro (by k_asm) (by k_asm) ⟨rfl, by rw [hj]⟩
end Mine
local macro_rules | `(tactic| walk_at "mine pad") => `(tactic| skip)
local macro_rules | `(tactic| walk_at "mine pad") => `(tactic| skip)
local macro_rules | `(tactic| walk_at "mine pad") => `(tactic| skip)
open PySem PySem.W PyProof.Rows PySem.Calls
namespace Mine
noncomputable def bisGo (gt : Nat → Bool) : Nat → Nat → Nat → Nat
  | 0, lo, _ => lo
  | f + 1, lo, hi => if lo < hi then (if gt ((lo + hi) / 2) then bisGo gt f lo ((lo + hi) / 2) else bisGo gt f ((lo + hi) / 2 + 1) hi) else lo
theorem bisGo_fuel (gt : Nat → Bool) : ∀ (f g lo hi : Nat), hi - lo ≤ f → hi - lo ≤ g → bisGo gt f lo hi = bisGo gt g lo hi
  | 0, 0, _, _, _, _ => rfl
  | 0, g + 1, lo, hi, h, _ => by simp [bisGo]; omega
  | f + 1, 0, lo, hi, _, h => by simp [bisGo]; omega
  | f + 1, g + 1, lo, hi, h1, h2 => by
    simp only [bisGo]
    split
    · split
      · exact bisGo_fuel gt f g _ _ (by omega) (by omega)
      · exact bisGo_fuel gt f g _ _ (by omega) (by omega)
    · rfl
noncomputable def bisF (gt : Nat → Bool) (lo hi : Nat) : Nat := bisGo gt (hi - lo) lo hi
theorem bisF_lo (gt : Nat → Bool) {lo hi : Nat} (h : lo < hi) (hg : gt ((lo + hi) / 2) = true) : bisF gt lo hi = bisF gt lo ((lo + hi) / 2) := by
  unfold bisF
  obtain ⟨f, hf⟩ : ∃ f, hi - lo = f + 1 := ⟨hi - lo - 1, by omega⟩
  rw [hf, bisGo, if_pos h, if_pos hg]
  exact bisGo_fuel gt _ _ _ _ (by omega) (by omega)
theorem bisF_hi (gt : Nat → Bool) {lo hi : Nat} (h : lo < hi) (hg : gt ((lo + hi) / 2) = false) : bisF gt lo hi = bisF gt ((lo + hi) / 2 + 1) hi := by
  unfold bisF
  obtain ⟨f, hf⟩ : ∃ f, hi - lo = f + 1 := ⟨hi - lo - 1, by omega⟩
  rw [hf, bisGo, if_pos h, if_neg (by rw [hg]; exact Bool.false_ne_true)]
  exact bisGo_fuel gt _ _ _ _ (by omega) (by omega)
theorem bisF_end (gt : Nat → Bool) {lo hi : Nat} (h : ¬ lo < hi) : bisF gt lo hi = lo := by
  unfold bisF
  rw [show hi - lo = 0 by omega]
  rfl
theorem bisGo_le (gt : Nat → Bool) : ∀ (f lo hi : Nat), lo ≤ hi → bisGo gt f lo hi ≤ hi
  | 0, lo, hi, h => h
  | f + 1, lo, hi, h => by
    simp only [bisGo]
    split
    · split
      · have := bisGo_le gt f lo ((lo + hi) / 2) (by omega); omega
      · exact bisGo_le gt f _ hi (by omega)
    · exact h
theorem bisF_le (gt : Nat → Bool) {lo hi : Nat} (h : lo ≤ hi) : bisF gt lo hi ≤ hi := bisGo_le gt _ _ _ h
section
variable {prog : Program} {w : World} {A : Around} {E : Value → Shared → Prop} {s : Shared} {h₀ : Heap} {L : Addr} {news : List (Addr × Obj)}
theorem len_lst {D : Addr} {zs : List Value} {k : Nat} {Q : Value → Shared → Prop} (N : News h₀ L s.heap news) (hm : (D, listOf zs.toArray k) ∈ news) (hz : zs.length ≤ 1000) (h : ∀ t k, Q (.int (zs.length : Int) t) { s with toks := k }) :
    wpAny (model prog w) A (call (.builtin "len") [.ref D]) Q E s := by
  refine len_list (News.isList N hm) (by rw [List.size_toArray]; omega) ?_
  rw [List.size_toArray]
  exact h _ _
theorem item_lst {value slice : PySem.Expr} {D : Addr} {zs : List Value} {k i : Nat} {v : Value} {u : Tok} {Q : Value → Shared → Prop} (N : News h₀ L s.heap news) (hm : (D, listOf zs.toArray k) ∈ news) (hv : zs[i]? = some v) (hz : zs.length ≤ 1000) (h : Q v s)
    (hs : subscripted slice false (.ref D) (.int (i : Int) u) = operate [.ref D, .int (i : Int) u] (getItem (.ref D) (.int (i : Int) u)) := by with_unfolding_all rfl) :
    wpAny (model prog w) A (subscriptTail value slice (.ref D) (.int (i : Int) u)) Q E s := by
  have hi : i < zs.length := (List.getElem?_eq_some_iff.mp hv).1
  exact tail_any (News.isList N hm).typeIs slot_list_getitem.lookup (wpAny_getItem_list (News.isList N hm) (by omega) (by omega) (by simpa using hv) h) hs
end
theorem mid_nat (lo hi : Nat) : Int.fdiv ((lo : Int) + (hi : Int)) 2 = (((lo + hi) / 2 : Nat) : Int) := by
  rw [← Int.natCast_add]
  exact fdiv_nat (lo + hi) 2
theorem lt_tx (a b : Bool) : decide ((tx [a]).cps.toList < (tx [b]).cps.toList) = (a && !b) := by
  cases a <;> cases b <;> decide
end Mine
namespace Mine
section
variable {prog : Program} {w : World} {A : Around} {E : Value → Shared → Prop} {s : Shared}
theorem floordiv_mid {lo hi : Nat} {t u : Tok} {Q : Value → Shared → Prop} (h : ∀ t' k, Q (.int (((lo + hi) / 2 : Nat) : Int) t') { s with toks := k }) :
    wpAny (model prog w) A (binaryOp .FloorDiv (.int ((lo : Int) + (hi : Int)) t) (.int 2 u)) Q E s := by
  refine floordiv_int (by decide) ?_
  rw [mid_nat]
  exact h _ _
end
end Mine
open PySem PySem.W PyProof.Rows PySem.Calls
set_option maxRecDepth 100000
set_option maxHeartbeats 1000000
namespace Mine
local macro_rules | `(tactic| walk_at "exec While Compare") => `(tactic| refine Box.out ?_)
local macro_rules | `(tactic| walk_at "exec While Compare cons nil") => `(tactic| refine Box.out ?_)
local macro_rules | `(tactic| walk_at "call builtin:len") => `(tactic| (refine len_lst (by k_asm) (by k_mem) (by omega) ?_; intro _ _))
local macro_rules | `(tactic| walk_at "subscriptTail Name Name ref int") => `(tactic| (k_dflt (refine' item_lst ?N ?m ?v ?z ?_; (case N => k_asm); (case m => k_mem); (case v => assumption); (case z => omega))))
local macro_rules | `(tactic| walk_at "binaryOp FloorDiv int int") => `(tactic| (refine floordiv_mid ?_; intro _ _))
theorem bisr_spec (prog : Program) (w : World) (p : Program) (loose : List Str) (mean : ExcName → Option Value) (mg mb : Str → Option Value) (news : List (Addr × Obj)) (D : Addr) (zs : List Value) (k : Nat) (bs : List Bool) (sg : Bool) (t : Tok) (hm : (D, W.listOf zs.toArray k) ∈ news) (hZ : StrsAre zs (bs.map fun b => tx [b])) (hl : bs.length ≤ 20) :
   FnOk prog w (hd.heap_39 w.params) p loose mean mg mb 1 (.ref 44) news [.ref D, .str (tx [sg]) t] [] (fun v n => n = news ∧ ∃ t, v = .int (bisF (fun i => sg && !(bs.getD i false)) 0 bs.length : Int) t) := by
  w_top off
  (k_dflt (refine' FnOk.of_body ?ho ?hcd ?hbind ?hloc ?hr ?_ ?c2 ?c3 ?c4 ?c5; (case ho => k_is); (case hcd => k_is); (case hbind => (intro s9 X9; exact kp_binds X9 (fun S => by with_unfolding_all rfl))); (case hloc => exact locs rfl); (case hr => decide); (case c5 => decide); (case c2 => exact rfl); (case c3 => exact rfl); (case c4 => exact rfl); k_whole))
  intro dp un gd cn cs a9 ccd cl outer base L g L' h₁ s tk F N B X T hdp hun
  clear hdp hun
  have hzl : zs.length = bs.length := by rw [hZ.length]; simp
  refine execs_cut 2 (fun s' => Box (∃ t1 t2, Mid s g L' news [("a", .ref D), ("x", .str (tx [sg]) t), ("lo", .int ((0 : Nat) : Int) t1), ("hi", .int (zs.length : Int) t2), ("key", .none)] s')) ?_ ?_
  · dsimp only [List.take]
    (try k_unmd); k_fold
    k_steps
    exact ⟨_, _, Mid.intro (by k_asm) (by k_asm) (by kst_all)⟩
  clear F N
  refine fun s' ⟨t1, t2, hM⟩ => Mid.elim hM ?_
  clear hM
  intro h6 tk2 m2 F2 N2
  dsimp only [List.drop]
  refine execs_cut 1 (fun s' => Box (∃ t1, Mid s g L' news [("lo", .int (bisF (fun i => sg && !(bs.getD i false)) 0 bs.length : Int) t1)] s')) ?_ ?_
  · dsimp only [List.take]
    (try k_unmd); k_fold
    k_steps
    rename Fr _ _ _ _ => F1
    rename News _ _ _ _ => N1
    refine Box.in ?_
    refine while_ps (σ := Nat × Nat × Tok × Tok) (fun c => [("a", .ref D), ("x", .str (tx [sg]) t), ("lo", .int (c.1 : Int) c.2.2.1), ("hi", .int (c.2.1 : Int) c.2.2.2)]) (fun _ => news) (fun c => c.1 ≤ c.2.1 ∧ c.2.1 ≤ zs.length ∧ bisF (fun i => sg && !(bs.getD i false)) 0 bs.length = bisF (fun i => sg && !(bs.getD i false)) c.1 c.2.1) (fun c => c.2.1 - c.1) (0, zs.length, t1, t2) (Mine.Fr.ps F1 (by kst_all)) N1 ⟨Nat.zero_le _, Nat.le_refl _, by rw [hzl]⟩ ?_
    clear F1 N1
    rintro ⟨lo, hi, tl, th⟩ m h tk ⟨q1, q2, q3⟩ F1 N1
    dsimp only [kstB] at q1 q2 q3 F1 N1 ⊢
    by_cases hlt : lo < hi
    · obtain ⟨b, hb⟩ : ∃ b, bs[(lo + hi) / 2]? = some b := ⟨bs[(lo + hi) / 2], List.getElem?_eq_getElem (by omega)⟩
      obtain ⟨tv, hv⟩ := hZ.get ((lo + hi) / 2) (tx [b]) (by simp [hb])
      have hgd : bs.getD ((lo + hi) / 2) false = b := by simp [List.getD_eq_getElem?_getD, hb]
      have hmid := mid_nat lo hi
      (try k_unmd); k_fold
      k_steps
      · rename (_ < _) => hq
        have hg : (sg && !(bs.getD ((lo + hi) / 2) false)) = true := by rw [hgd, ← lt_tx]; exact decide_eq_true hq
        exact ⟨(lo, (lo + hi) / 2, _, _), ⟨by dsimp only; omega, by dsimp only; omega, q3.trans (bisF_lo _ hlt hg)⟩, by dsimp only; omega, Mid.intro (by k_asm) (by k_asm) (by kst_all)⟩
      · rename ¬ (_ < _) => hq
        have hg : (sg && !(bs.getD ((lo + hi) / 2) false)) = false := by rw [hgd, ← lt_tx]; exact decide_eq_false hq
        exact ⟨((lo + hi) / 2 + 1, hi, _, _), ⟨by dsimp only; omega, by dsimp only; omega, q3.trans (bisF_hi _ hlt hg)⟩, by dsimp only; omega, Mid.intro (by k_asm) (by k_asm) (by kst_all)⟩
    · (try k_unmd); k_fold
      k_steps
      refine' ⟨_, ?M⟩
      case M => rw [q3, bisF_end _ hlt]; exact Mid.intro (by k_asm) (by k_asm) (by kst_all)
  clear F2 N2
  refine fun s' ⟨t1, hM⟩ => Mid.elim hM ?_
  clear hM
  intro h6 tk2 m2 F2 N2
  dsimp only [List.drop]
  (try k_unmd); k_fold
  k_steps
  exact RetP.intro (by k_asm) (by k_asm) ⟨rfl, _, rfl⟩
end Mine
local macro_rules | `(tactic| walk_at "mine pad") => `(tactic| skip)
local macro_rules | `(tactic| walk_at "mine pad") => `(tactic| skip)
local macro_rules | `(tactic| walk_at "mine pad") => `(tactic| skip)
local macro_rules | `(tactic| walk_at "mine pad") => `(tactic| skip)
local macro_rules | `(tactic| walk_at "mine pad") => `(tactic| skip)
local macro_rules | `(tactic| walk_at "mine pad") => `(tactic| skip)
open PySem PySem.W PyProof.Rows PySem.Calls
set_option maxRecDepth 100000
set_option maxHeartbeats 1000000
namespace Mine
local macro_rules | `(tactic| walk_at "exec While Compare") => `(tactic| refine Box.out ?_)
local macro_rules | `(tactic| walk_at "exec While Compare cons nil") => `(tactic| refine Box.out ?_)
local macro_rules | `(tactic| walk_at "call builtin:len") => `(tactic| (refine len_lst (by k_asm) (by k_mem) (by omega) ?_; intro _ _))
local macro_rules | `(tactic| walk_at "subscriptTail Name Name ref int") => `(tactic| (k_dflt (refine' item_lst ?N ?m ?v ?z ?_; (case N => k_asm); (case m => k_mem); (case v => assumption); (case z => omega))))
local macro_rules | `(tactic| walk_at "call ref") => `(tactic| refine Box.out ?_)
local macro_rules | `(tactic| walk_at "callWith ref") => `(tactic| (k_dflt (refine' callWith_F ?k1 ?_; (case k1 => exact FnAt.of (by k_asm) (by k_mem)); k_whole)))
local macro_rules | `(tactic| walk_at "binaryOp FloorDiv int int") => `(tactic| (refine floordiv_mid ?_; intro _ _))
theorem bisrk_spec (prog : Program) (w : World) (p : Program) (loose : List Str) (mean : ExcName → Option Value) (mg mb : Str → Option Value) (news : List (Addr × Obj)) (D : Addr) (zs : List Value) (k : Nat) (f : Addr) (nm ql : Str) (pr : Arguments) (bd : PySem.Expr) (sc : Scope) (cl' : List (Str × Addr)) (pm : Value) (c' : Addr) (ct : Value) (col : Int) (kf : Nat → Int) (t : Tok) (hm : (D, W.listOf zs.toArray k) ∈ news) (hf : (f, kla_obj nm ql pr bd sc cl' pm c' ct) ∈ news)
    (hkey : ∀ i v, zs[i]? = some v → FnOk prog w (hd.heap_39 w.params) p loose mean mg mb 3 (.ref f) news [v] [] (fun r n => n = news ∧ ∃ t, r = .int (kf i) t)) (hl : zs.length ≤ 20) :
   FnOk prog w (hd.heap_39 w.params) p loose mean mg mb 4 (.ref 44) news [.ref D, .int col t] [("key", .ref f)] (fun v n => n = news ∧ ∃ t, v = .int (bisF (fun i => decide (col < kf i)) 0 zs.length : Int) t) := by
  w_top off
  (k_dflt (refine' FnOk.of_body ?ho ?hcd ?hbind ?hloc ?hr ?_ ?c2 ?c3 ?c4 ?c5; (case ho => k_is); (case hcd => k_is); (case hbind => (intro s9 X9; exact kp_binds X9 (fun S => by with_unfolding_all rfl))); (case hloc => exact locs rfl); (case hr => decide); (case c5 => decide); (case c2 => exact rfl); (case c3 => exact rfl); (case c4 => exact rfl); k_whole))
  intro dp un gd cn cs a9 ccd cl outer base L g L' h₁ s tk F N B X T hdp hun
  refine execs_cut 2 (fun s' => Box (∃ t1 t2, Mid s g L' news [("a", .ref D), ("x", .int col t), ("lo", .int ((0 : Nat) : Int) t1), ("hi", .int (zs.length : Int) t2), ("key", .ref f)] s')) ?_ ?_
  · dsimp only [List.take]
    (try k_unmd); k_fold
    k_steps
    exact ⟨_, _, Mid.intro (by k_asm) (by k_asm) (by kst_all)⟩
  clear F N
  refine fun s' ⟨t1, t2, hM⟩ => Mid.elim hM ?_
  clear hM
  intro h6 tk2 m2 F2 N2
  dsimp only [List.drop]
  refine execs_cut 1 (fun s' => Box (∃ t1, Mid s g L' news [("lo", .int (bisF (fun i => decide (col < kf i)) 0 zs.length : Int) t1)] s')) ?_ ?_
  · dsimp only [List.take]
    (try k_unmd); k_fold
    k_steps
    rename Fr _ _ _ _ => F1
    rename News _ _ _ _ => N1
    refine Box.in ?_
    refine while_ps (σ := Nat × Nat × Tok × Tok) (fun c => [("a", .ref D), ("x", .int col t), ("lo", .int (c.1 : Int) c.2.2.1), ("hi", .int (c.2.1 : Int) c.2.2.2), ("key", .ref f)]) (fun _ => news) (fun c => c.1 ≤ c.2.1 ∧ c.2.1 ≤ zs.length ∧ bisF (fun i => decide (col < kf i)) 0 zs.length = bisF (fun i => decide (col < kf i)) c.1 c.2.1) (fun c => c.2.1 - c.1) (0, zs.length, t1, t2) (Mine.Fr.ps F1 (by kst_all)) N1 ⟨Nat.zero_le _, Nat.le_refl _, rfl⟩ ?_
    clear F1 N1
    rintro ⟨lo, hi, tl, th⟩ m h tk ⟨q1, q2, q3⟩ F1 N1
    dsimp only [kstB] at q1 q2 q3 F1 N1 ⊢
    by_cases hlt : lo < hi
    · obtain ⟨v, hv⟩ : ∃ v, zs[(lo + hi) / 2]? = some v := ⟨zs[(lo + hi) / 2], List.getElem?_eq_getElem (by omega)⟩
      have hK := hkey _ _ hv
      (try k_unmd); k_fold
      k_steps
      refine Box.in ?_
      rename Fr _ _ _ _ => F5
      rename News _ _ _ _ => N5
      refine FnOk.use hK B F5 X N5 T rfl (by ktr_room) (by ktr_units) ?_
      rintro v9 h9 tk9 n9 ⟨e9, t9, e8⟩ F9 N9
      rw [e9] at N9
      clear e9
      subst e8
      clear F5 N5
      (try dsimp only)
      k_steps
      · rename (_ < _) => hq
        exact ⟨(lo, (lo + hi) / 2, _, _), ⟨by dsimp only; omega, by dsimp only; omega, q3.trans (bisF_lo _ hlt (decide_eq_true hq))⟩, by dsimp only; omega, Mid.intro (by k_asm) (by k_asm) (by kst_all)⟩
      · rename ¬ (_ < _) => hq
        exact ⟨((lo + hi) / 2 + 1, hi, _, _), ⟨by dsimp only; omega, by dsimp only; omega, q3.trans (bisF_hi _ hlt (decide_eq_false hq))⟩, by dsimp only; omega, Mid.intro (by k_asm) (by k_asm) (by kst_all)⟩
    · (try k_unmd); k_fold
      k_steps
      refine' ⟨_, ?M⟩
      case M => rw [q3, bisF_end _ hlt]; exact Mid.intro (by k_asm) (by k_asm) (by kst_all)
  clear F2 N2
  refine fun s' ⟨t1, hM⟩ => Mid.elim hM ?_
  clear hM
  intro h6 tk2 m2 F2 N2
  dsimp only [List.drop]
  (try k_unmd); k_fold
  k_steps
  exact RetP.intro (by k_asm) (by k_asm) ⟨rfl, _, rfl⟩
theorem bislk_spec (prog : Program) (w : World) (p : Program) (loose : List Str) (mean : ExcName → Option Value) (mg mb : Str → Option Value) (news : List (Addr × Obj)) (D : Addr) (zs : List Value) (k : Nat) (f : Addr) (nm ql : Str) (pr : Arguments) (bd : PySem.Expr) (sc : Scope) (cl' : List (Str × Addr)) (pm : Value) (c' : Addr) (ct : Value) (col : Int) (kf : Nat → Int) (t : Tok) (hm : (D, W.listOf zs.toArray k) ∈ news) (hf : (f, kla_obj nm ql pr bd sc cl' pm c' ct) ∈ news)
    (hkey : ∀ i v, zs[i]? = some v → FnOk prog w (hd.heap_39 w.params) p loose mean mg mb 3 (.ref f) news [v] [] (fun r n => n = news ∧ ∃ t, r = .int (kf i) t)) (hl : zs.length ≤ 20) :
   FnOk prog w (hd.heap_39 w.params) p loose mean mg mb 4 (.ref 53) news [.ref D, .int col t] [("key", .ref f)] (fun v n => n = news ∧ ∃ t, v = .int (bisF (fun i => !decide (kf i < col)) 0 zs.length : Int) t) := by
  (k_dflt (refine' FnOk.of_body ?ho ?hcd ?hbind ?hloc ?hr ?_ ?c2 ?c3 ?c4 ?c5; (case ho => k_is); (case hcd => k_is); (case hbind => (intro s9 X9; exact kp_binds X9 (fun S => by with_unfolding_all rfl))); (case hloc => exact locs rfl); (case hr => decide); (case c5 => decide); (case c2 => exact rfl); (case c3 => exact rfl); (case c4 => exact rfl); k_whole))
  intro dp un gd cn cs a9 ccd cl outer base L g L' h₁ s tk F N B X T hdp hun
  refine execs_cut 2 (fun s' => Box (∃ t1 t2, Mid s g L' news [("a", .ref D), ("x", .int col t), ("lo", .int ((0 : Nat) : Int) t1), ("hi", .int (zs.length : Int) t2), ("key", .ref f)] s')) ?_ ?_
  · dsimp only [List.take]
    (try k_unmd); k_fold
    k_steps
    exact ⟨_, _, Mid.intro (by k_asm) (by k_asm) (by kst_all)⟩
  clear F N
  refine fun s' ⟨t1, t2, hM⟩ => Mid.elim hM ?_
  clear hM
  intro h6 tk2 m2 F2 N2
  dsimp only [List.drop]
  refine execs_cut 1 (fun s' => Box (∃ t1, Mid s g L' news [("lo", .int (bisF (fun i => !decide (kf i < col)) 0 zs.length : Int) t1)] s')) ?_ ?_
  · dsimp only [List.take]
    (try k_unmd); k_fold
    k_steps
    rename Fr _ _ _ _ => F1
    rename News _ _ _ _ => N1
    refine Box.in ?_
    refine while_ps (σ := Nat × Nat × Tok × Tok) (fun c => [("a", .ref D), ("x", .int col t), ("lo", .int (c.1 : Int) c.2.2.1), ("hi", .int (c.2.1 : Int) c.2.2.2), ("key", .ref f)]) (fun _ => news) (fun c => c.1 ≤ c.2.1 ∧ c.2.1 ≤ zs.length ∧ bisF (fun i => !decide (kf i < col)) 0 zs.length = bisF (fun i => !decide (kf i < col)) c.1 c.2.1) (fun c => c.2.1 - c.1) (0, zs.length, t1, t2) (Mine.Fr.ps F1 (by kst_all)) N1 ⟨Nat.zero_le _, Nat.le_refl _, rfl⟩ ?_
    clear F1 N1
    rintro ⟨lo, hi, tl, th⟩ m h tk ⟨q1, q2, q3⟩ F1 N1
    dsimp only [kstB] at q1 q2 q3 F1 N1 ⊢
    by_cases hlt : lo < hi
    · obtain ⟨v, hv⟩ : ∃ v, zs[(lo + hi) / 2]? = some v := ⟨zs[(lo + hi) / 2], List.getElem?_eq_getElem (by omega)⟩
      have hK := hkey _ _ hv
      (try k_unmd); k_fold
      k_steps
      refine Box.in ?_
      rename Fr _ _ _ _ => F5
      rename News _ _ _ _ => N5
      refine FnOk.use hK B F5 X N5 T rfl (by ktr_room) (by ktr_units) ?_
      rintro v9 h9 tk9 n9 ⟨e9, t9, e8⟩ F9 N9
      rw [e9] at N9
      clear e9
      subst e8
      clear F5 N5
      (try dsimp only)
      k_steps
      · rename (_ < _) => hq
        exact ⟨((lo + hi) / 2 + 1, hi, _, _), ⟨by dsimp only; omega, by dsimp only; omega, q3.trans (bisF_hi _ hlt (by simpa using hq))⟩, by dsimp only; omega, Mid.intro (by k_asm) (by k_asm) (by kst_all)⟩
      · rename ¬ (_ < _) => hq
        exact ⟨(lo, (lo + hi) / 2, _, _), ⟨by dsimp only; omega, by dsimp only; omega, q3.trans (bisF_lo _ hlt (by simpa using hq))⟩, by dsimp only; omega, Mid.intro (by k_asm) (by k_asm) (by kst_all)⟩
    · (try k_unmd); k_fold
      k_steps
      refine' ⟨_, ?M⟩
      case M => rw [q3, bisF_end _ hlt]; exact Mid.intro (by k_asm) (by k_asm) (by kst_all)
  clear F2 N2
  refine fun s' ⟨t1, hM⟩ => Mid.elim hM ?_
  clear hM
  intro h6 tk2 m2 F2 N2
  dsimp only [List.drop]
  (try k_unmd); k_fold
  k_steps
  exact RetP.intro (by k_asm) (by k_asm) ⟨rfl, _, rfl⟩
end Mine
local macro_rules | `(tactic| walk_at "mine pad") => `(tactic| skip)
local macro_rules | `(tactic| walk_at "mine pad") => `(tactic| skip)
local macro_rules | `(tactic| walk_at "mine pad") => `(tactic| skip)
local macro_rules | `(tactic| walk_at "mine pad") => `(tactic| skip)
local macro_rules | `(tactic| walk_at "mine pad") => `(tactic| skip)
local macro_rules | `(tactic| walk_at "mine pad") => `(tactic| skip)
local macro_rules | `(tactic| walk_at "mine pad") => `(tactic| skip)
local macro_rules | `(tactic| walk_at "mine pad") => `(tactic| skip)
open PySem PySem.W PyProof.Rows PySem.Calls
namespace Mine
noncomputable abbrev celL (L : Addr) (o1 o2 o3 o4 o5 o6 o7 : Obj) (R : List (Addr × Obj)) : List (Addr × Obj) :=
  (L + 1 + 1 + 1 + 1 + 1 + 1 + 1, o7) :: (L + 1 + 1 + 1 + 1 + 1 + 1, o6) :: (L + 1 + 1 + 1 + 1 + 1, o5) :: (L + 1 + 1 + 1 + 1, o4) :: (L + 1 + 1 + 1, o3) :: (L + 1 + 1, o2) :: (L + 1, o1) :: R
theorem celL.mem {L : Addr} {o1 o2 o3 o4 o5 o6 o7 : Obj} {R : List (Addr × Obj)} {p : Addr × Obj} (h : p ∈ R) : p ∈ celL L o1 o2 o3 o4 o5 o6 o7 R := .tail _ (.tail _ (.tail _ (.tail _ (.tail _ (.tail _ (.tail _ h))))))
noncomputable def LawEnd (s : Shared) (g : Heap) (L : Addr) (fl : Flow) (s' : Shared) : Prop :=
  ∃ h tk m' news' ps, fl = .ret (.bool true) ∧ s' = { s with heap := h, toks := tk } ∧ Fr g L h m' ∧ News g L h news' ∧ (121, tabObj ps) ∈ news'
/-- the law's frame: its cells, its named locals, the rest of the ledger -/
noncomputable def LSt (s : Shared) (g : Heap) (L : Addr) (c1 c2 c3 c4 c5 c6 c7 : Option Value) (ps : List (Str × Value)) (R : List (Addr × Obj)) (s' : Shared) : Prop :=
  ∃ h tk m o1 o2 o3 o4 o5 o6 o7, s' = { s with heap := h, toks := tk } ∧ Fr g L h (kstB m ps) ∧ News g L h (celL L o1 o2 o3 o4 o5 o6 o7 R) ∧
    o1.data = .cell c1 ∧ o2.data = .cell c2 ∧ o3.data = .cell c3 ∧ o4.data = .cell c4 ∧ o5.data = .cell c5 ∧ o6.data = .cell c6 ∧ o7.data = .cell c7
theorem LSt.intro {s : Shared} {g h : Heap} {L : Addr} {c1 c2 c3 c4 c5 c6 c7 : Option Value} {ps : List (Str × Value)} {R : List (Addr × Obj)} {m : Str → Option Value} {tk : Nat} {o1 o2 o3 o4 o5 o6 o7 : Obj} (F : Fr g L h m) (N : News g L h (celL L o1 o2 o3 o4 o5 o6 o7 R))
    (d1 : o1.data = .cell c1) (d2 : o2.data = .cell c2) (d3 : o3.data = .cell c3) (d4 : o4.data = .cell c4) (d5 : o5.data = .cell c5) (d6 : o6.data = .cell c6) (d7 : o7.data = .cell c7) (hp : ∀ p ∈ ps, m p.1 = some p.2) :
    LSt s g L c1 c2 c3 c4 c5 c6 c7 ps R { s with heap := h, toks := tk } := ⟨h, tk, m, o1, o2, o3, o4, o5, o6, o7, rfl, Mine.Fr.ps F hp, N, d1, d2, d3, d4, d5, d6, d7⟩
theorem LSt.elim {s : Shared} {g : Heap} {L : Addr} {c1 c2 c3 c4 c5 c6 c7 : Option Value} {ps : List (Str × Value)} {R : List (Addr × Obj)} {s' : Shared} {P : Shared → Prop} (H : LSt s g L c1 c2 c3 c4 c5 c6 c7 ps R s')
    (k : ∀ h tk m o1 o2 o3 o4 o5 o6 o7, Fr g L h (kstB m ps) → News g L h (celL L o1 o2 o3 o4 o5 o6 o7 R) → o1.data = .cell c1 → o2.data = .cell c2 → o3.data = .cell c3 → o4.data = .cell c4 → o5.data = .cell c5 → o6.data = .cell c6 → o7.data = .cell c7 → P { s with heap := h, toks := tk }) : P s' := by
  obtain ⟨h, tk, m, o1, o2, o3, o4, o5, o6, o7, rfl, F, N, d1, d2, d3, d4, d5, d6, d7⟩ := H
  exact k h tk m o1 o2 o3 o4 o5 o6 o7 F N d1 d2 d3 d4 d5 d6 d7
/-- no address of R is a cell's -/
noncomputable def Off (L : Nat) (R : List (Addr × Obj)) : Prop := ∀ p ∈ R, (@LE.le Nat _ p.1 L) ∨ (@LT.lt Nat _ (L + 7) p.1)
theorem Off.ne {L : Nat} {R : List (Addr × Obj)} (h : Off L R) (d : Nat) (h1 : L < d) (h2 : d ≤ L + 7) : ∀ p ∈ R, p.1 ≠ d := fun p hp e => by
  have e' : @Eq Nat p.1 d := e
  rcases h p hp with q | q <;> omega
theorem Off.nil {L : Nat} : Off L [] := fun _ hp => nomatch hp
theorem Off.cons {L : Nat} {p : Addr × Obj} {R : List (Addr × Obj)} (h1 : (@LE.le Nat _ p.1 L) ∨ (@LT.lt Nat _ (L + 7) p.1)) (h : Off L R) : Off L (p :: R) := fun q hq => (List.mem_cons.mp hq).elim (fun e => e ▸ h1) (h q)
theorem Off.append {L : Nat} {V R : List (Addr × Obj)} (h1 : Off L V) (h : Off L R) : Off L (V ++ R) := fun q hq => (List.mem_append.mp hq).elim (h1 q) (h q)
theorem Off.sub {L : Nat} {V R : List (Addr × Obj)} (h : Off L R) (hs : ∀ p ∈ V, p ∈ R) : Off L V := fun q hq => h q (hs q hq)
theorem News.sub {g h : Heap} {L : Addr} {a b : List (Addr × Obj)} (N : News g L h a) (sub : ∀ p ∈ b, p ∈ a) : News g L h b := fun p hp => N p (sub p hp)
end Mine
local macro_rules | `(tactic| walk_at "mine off") => `(tactic| first | assumption | exact Mine.Off.nil | (refine Mine.Off.cons (by dsimp only; omega) ?_; walk_at "mine off") | (refine Mine.Off.append (by assumption) ?_; walk_at "mine off"))
namespace Mine
end Mine
local macro_rules | `(tactic| walk_at "mine sub") => `(tactic| first | exact List.forall_mem_nil _ | (refine List.forall_mem_cons.mpr ⟨by k_mem, ?_⟩; walk_at "mine sub"))
namespace Mine
theorem celL.sub {L : Addr} {o1 o2 o3 o4 o5 o6 o7 : Obj} {V R : List (Addr × Obj)} (h : ∀ p ∈ V, p ∈ R) : ∀ p ∈ celL L o1 o2 o3 o4 o5 o6 o7 V, p ∈ celL L o1 o2 o3 o4 o5 o6 o7 R :=
  have c {q : Addr × Obj} {A B : List (Addr × Obj)} (h : ∀ p ∈ A, p ∈ B) : ∀ p ∈ q :: A, p ∈ q :: B := fun p hp => (List.mem_cons.mp hp).elim (fun e => e ▸ .head _) fun hp => .tail _ (h p hp)
  c (c (c (c (c (c (c h))))))
theorem celL.iff {L : Addr} {o1 o2 o3 o4 o5 o6 o7 : Obj} {V : List (Addr × Obj)} {p : Addr × Obj} : p ∈ celL L o1 o2 o3 o4 o5 o6 o7 V ↔ p ∈ celL L o1 o2 o3 o4 o5 o6 o7 [] ∨ p ∈ V := List.mem_append (s := celL L o1 o2 o3 o4 o5 o6 o7 []) (t := V)
theorem celL.swap {L : Addr} {o1 o2 o3 o4 o5 o6 o7 : Obj} {V R : List (Addr × Obj)} : ∀ p ∈ celL L o1 o2 o3 o4 o5 o6 o7 (V ++ R), p ∈ V ++ celL L o1 o2 o3 o4 o5 o6 o7 R := fun p hp =>
  (celL.iff.mp hp).elim (fun h => List.mem_append_right _ (celL.iff.mpr (.inl h))) fun h => (List.mem_append.mp h).elim (fun h => List.mem_append_left _ h) fun h => List.mem_append_right _ (celL.mem h)
theorem News.swap {g h : Heap} {L : Addr} {o1 o2 o3 o4 o5 o6 o7 : Obj} {q : Addr × Obj} {R : List (Addr × Obj)} (N : News g L h (q :: celL L o1 o2 o3 o4 o5 o6 o7 R)) : News g L h (celL L o1 o2 o3 o4 o5 o6 o7 (q :: R)) := News.sub N (celL.swap (V := [q]))
theorem News.swapA {g h : Heap} {L : Addr} {o1 o2 o3 o4 o5 o6 o7 : Obj} {V R : List (Addr × Obj)} (N : News g L h (V ++ celL L o1 o2 o3 o4 o5 o6 o7 R)) : News g L h (celL L o1 o2 o3 o4 o5 o6 o7 (V ++ R)) := News.sub N celL.swap
noncomputable abbrev lawE (L fa : Addr) : Env := envOfC "law" (fnS 13) L fa (.ref 123)
noncomputable def drawsOf (ns : List Int) : List Int := ns.take 6 ++ ([0, 1, 0, 1] : List Int).drop ns.length
noncomputable def bitOf (x : Int) : Bool := decide (Int.fmod x 2 = 1)
noncomputable def bitsOf (ns : List Int) : List Bool := (drawsOf ns).map bitOf
end Mine
open PySem PySem.W PyProof.Rows PySem.Calls
set_option maxRecDepth 100000
set_option maxHeartbeats 1000000
namespace Mine
local macro_rules | `(tactic| walk_at "subscriptTail List cons Slice ref ref") => `(tactic| refine Box.out ?_)
theorem segA0 (prog : Program) (w : World) (p : Program) (loose : List Str) (mean : ExcName → Option Value) (mg mb : Str → Option Value) (g : Heap) (L fa : Addr) (s : Shared) (S : Addr) (vs : List Value) (ns : List Int) (m : Str → Option Value) (o1 o2 o3 o4 o5 o6 o7 : Obj)
    (F : Fr g L s.heap (kstB m [("script", .ref S)])) (N : News g L s.heap (celL L o1 o2 o3 o4 o5 o6 o7 [(121, tabObj #[])])) (d1 : o1.data = .cell none) (d2 : o2.data = .cell none) (d3 : o3.data = .cell none) (d4 : o4.data = .cell none) (d5 : o5.data = .cell none) (d6 : o6.data = .cell none) (d7 : o7.data = .cell none)
    (hl : g.IsList S vs.toArray) (hI : IntsAre vs ns) (hn : ns.length ≤ 63) (hlay : (PyData.list (ns.map PyData.int)).layable0 = true) (B : Below callerA g [] g) (X : (hd.heap_39 w.params).In g) (T : Top p loose mean mg mb g) (C : CodeHd g 123 121) (l0 : 121 < L) (Q : Flow → Shared → Prop)
    (hQ : ∀ s' D zs k, IntsAre zs (drawsOf ns) → Off L [(D, W.listOf zs.toArray k), (121, tabObj #[])] → LSt s g L none none none none none none none [("draws", .ref D)] [(D, W.listOf zs.toArray k), (121, tabObj #[])] s' → wpAny (model prog w) (callerA.deeper (lawE L fa)) (execs ((fnB 13).drop 1) (lawE L fa)) Q (fun _ _ => False) s') :
    wpAny (model prog w) (callerA.deeper (lawE L fa)) (execs (fnB 13) (lawE L fa)) Q (fun _ _ => False) s := by
  w_top off
  refine execs_cut 1 (fun s' => Box (∃ D zs k, IntsAre zs (drawsOf ns) ∧ Off L [(D, W.listOf zs.toArray k), (121, tabObj #[])] ∧ LSt s g L none none none none none none none [("draws", .ref D)] [(D, W.listOf zs.toArray k), (121, tabObj #[])] s')) ?_ (fun s' ⟨D, zs, k, h1, h2, h3⟩ => hQ s' D zs k h1 h2 h3)
  conv in (List.take _ _) => whnf
  have hvl := hI.length
  (try k_unmd); k_fold
  k_steps
  refine Box.in ?_
  k_dflt (refine kba_turn (value' := PySem.Expr.Name (PySem.Str.ofString "x") ⟨0, 0, 0, 0⟩) (fun _ => rfl) ?_)
  k_dflt (refine' kmk_slice_ints (ns := [0, 1, 0, 1]) ?F9 ?N9 ?l9 ?p9 ?q9 ?i9 (kmk_from ?i9 (Int.natCast_nonneg ns.length)) rfl ?_ ?s9 ?t9 ?z9)
  case F9 => k_asm
  case N9 => k_asm
  case l9 => kmk_list
  case p9 => kmk_part
  case q9 => kmk_part
  case i9 => l_ints
  case s9 => with_unfolding_all rfl
  case t9 => exact fun _ => rfl
  case z9 => kmk_size
  intro D' ws' h' F' N' l1 hI' hC' hL'
  k_lt l1
  k_sweep
  simp only [Int.toNat_natCast] at hI'
  clear hC' hL'
  (try k_unmd); k_fold; dsimp only
  k_steps
  simp only [List.take_zero]
  rename Fr _ _ _ _ => F2
  rename News _ _ _ _ => N2
  rename IntsAre _ (_ ++ _) => hI2
  k_steps
  refine Box.in ?_
  have l0' := ltN l0
  refine' ⟨_, _, _, hI2, ?O, ?S⟩
  case S => exact LSt.intro F2 (News.sub N2 (by walk_at "mine sub")) d1 d2 d3 d4 d5 d6 d7 (by kst_all)
  case O => walk_at "mine off"
end Mine
local macro_rules | `(tactic| walk_at "mine pad") => `(tactic| skip)
local macro_rules | `(tactic| walk_at "mine pad") => `(tactic| skip)
open PySem PySem.W PyProof.Rows PySem.Calls
namespace Mine
theorem comp_rest {prog : Program} {w : World} {A : Around} {h₀ : Heap} {L : Addr} {m : Str → Option Value} {env : Env} {elt : Expr} {x : Str} {scope : Scope} {cl : List (Str × Addr)} {s : Shared} {S : List (Addr × Obj) → Prop} {P : Nat → Value → Prop}
    {Fin : List Value → List (Addr × Obj) → Prop} (n : Nat) (Inv : Nat → List Value → List (Addr × Obj) → Prop)
    (step : ∀ i ys news v I oI C oC D m₂ h tk (E' : Value → Shared → Prop), i < n → Inv i ys news → P i v → LCg.NsObj oC m₂ → m₂ x = some v → Fr h₀ L h m → News h₀ L h ((I, oI) :: (C, oC) :: (D, LCg.lst ys) :: news) → LCg.Off3 I C D news → ((@Ne Nat I C) ∧ (@Ne Nat I D) ∧ (@Ne Nat C D)) →
      wpAny (model prog w) A (eval elt (compEnvC scope cl C env)) (LCg.CompEnd h₀ L m { s with heap := h, toks := tk } I oI C oC D (LCg.lst ys) S (fun y news' => Inv (i + 1) (ys ++ [y]) news')) E' { s with heap := h, toks := tk })
    (fin : ∀ ys news, Inv n ys news → Fin ys news) {news : List (Addr × Obj)} (h0 : Inv 0 [] news) : LCg.CompRest prog w A h₀ L m env elt x scope cl s S P Fin n 0 [] news := by
  have key : ∀ (j i : Nat) ys news, i + j = n → Inv i ys news → LCg.CompRest prog w A h₀ L m env elt x scope cl s S P Fin j i ys news := by
    intro j
    induction j with
    | zero => intro i ys news e hi; exact fin ys news (by rw [show n = i by omega]; exact hi)
    | succ j ih =>
      intro i ys news e hi v I oI C oC D m₂ h tk E' hP hC hx F N off ne
      refine wpAny_mono (step i ys news v I oI C oC D m₂ h tk E' (by omega) hi hP hC hx F N off ne) (fun y s' hq => ?_) fun _ _ e => e
      obtain ⟨h', tk', news', e1, F', N', off', hS', hr⟩ := hq
      exact ⟨h', tk', news', e1, F', N', off', hS', ih (i + 1) _ _ (by omega) hr⟩
  exact key n 0 [] news (by omega) h0
/-- the ledger is kept -/
theorem comp_keep {prog : Program} {w : World} {A : Around} {h₀ : Heap} {L : Addr} {m : Str → Option Value} {env : Env} {elt : Expr} {x : Str} {scope : Scope} {cl : List (Str × Addr)} {s : Shared} {S : List (Addr × Obj) → Prop} {P : Nat → Value → Prop}
    {Fin : List Value → List (Addr × Obj) → Prop} (n : Nat) {news : List (Addr × Obj)} (V : Nat → Value → Prop) (hS : S news)
    (step : ∀ i v I oI C oC D m₂ h tk ys (E' : Value → Shared → Prop), i < n → P i v → LCg.NsObj oC m₂ → m₂ x = some v → Fr h₀ L h m → News h₀ L h ((I, oI) :: (C, oC) :: (D, LCg.lst ys) :: news) → LCg.Off3 I C D news → ((@Ne Nat I C) ∧ (@Ne Nat I D) ∧ (@Ne Nat C D)) →
      wpAny (model prog w) A (eval elt (compEnvC scope cl C env)) (fun y s' => Box (∃ h' tk', s' = { s with heap := h', toks := tk' } ∧ Fr h₀ L h' m ∧ News h₀ L h' ((I, oI) :: (C, oC) :: (D, LCg.lst ys) :: news) ∧ V i y)) E' { s with heap := h, toks := tk })
    (fin : ∀ ys, ys.length = n → (∀ i y, ys[i]? = some y → V i y) → Fin ys news) : LCg.CompRest prog w A h₀ L m env elt x scope cl s S P Fin n 0 [] news := by
  refine comp_rest n (fun i ys nw => nw = news ∧ ys.length = i ∧ ∀ j y, ys[j]? = some y → V j y) ?_ (fun ys nw ⟨e, hl, hv⟩ => e ▸ fin ys hl hv) ⟨rfl, rfl, fun i y h => by cases h⟩
  rintro i ys nw v I oI C oC D m₂ h tk E' hi ⟨rfl, hl, hv⟩ hP hC hx F N off ne
  refine wpAny_mono (step i v I oI C oC D m₂ h tk ys E' hi hP hC hx F N off ne) (fun y s' hq => ?_) fun _ _ e => e
  obtain ⟨h', tk', rfl, F', N', hy⟩ := hq
  refine ⟨h', tk', _, rfl, F', N', off, hS, rfl, by simp [hl], fun j z hz => ?_⟩
  rw [List.getElem?_append] at hz
  split at hz
  · exact hv j z hz
  · rename_i hj
    have : j - ys.length = 0 := by
      rcases Nat.eq_zero_or_pos (j - ys.length) with q | q
      · exact q
      · rw [List.getElem?_eq_none (by simp; omega)] at hz; cases hz
    rw [this] at hz
    obtain rfl : y = z := by simpa using hz
    have : j = i := by omega
    exact this ▸ hy
theorem keep_end {s : Shared} {g h : Heap} {L : Addr} {m : Str → Option Value} {news : List (Addr × Obj)} {V : Prop} {tk : Nat} (F : Fr g L h m) (N : News g L h news) (hv : V) :
    ∃ h' tk', ({ s with heap := h, toks := tk } : Shared) = { s with heap := h', toks := tk' } ∧ Fr g L h' m ∧ News g L h' news ∧ V := ⟨h, tk, rfl, F, N, hv⟩
theorem strs_get : ∀ {vs : List Value} {ys : List Str}, vs.length = ys.length → (∀ (i : Nat) y, vs[i]? = some y → ∃ t, ∃ x, ys[i]? = some x ∧ y = Value.str x t) → StrsAre vs ys
  | [], [], _, _ => .nil
  | v :: vs, y :: ys, hl, h => by
    obtain ⟨t, x, e, e2⟩ := h 0 v rfl
    obtain rfl : y = x := by simpa using e
    subst e2
    exact .cons _ _ (strs_get (by simpa using hl) fun i z hz => h (i + 1) z hz)
theorem ints_get : ∀ {vs : List Value} {ys : List Int}, vs.length = ys.length → (∀ (i : Nat) y, vs[i]? = some y → ∃ t, ∃ x, ys[i]? = some x ∧ y = Value.int x t) → IntsAre vs ys
  | [], [], _, _ => .nil
  | v :: vs, y :: ys, hl, h => by
    obtain ⟨t, x, e, e2⟩ := h 0 v rfl
    obtain rfl : y = x := by simpa using e
    subst e2
    exact .cons _ _ (ints_get (by simpa using hl) fun i z hz => h (i + 1) z hz)
theorem ints_at : ∀ {vs : List Value} {ys : List Int}, IntsAre vs ys → ∀ {i : Nat} {v : Value}, vs[i]? = some v → ∃ t x, ys[i]? = some x ∧ v = .int x t
  | _, _, .nil, _, _, h => by cases h
  | _, _, .cons x t r, 0, v, h => ⟨t, x, rfl, by simpa using h.symm⟩
  | _, _, .cons x t r, i + 1, v, h => ints_at r (i := i) h
theorem strs_at : ∀ {vs : List Value} {ys : List Str}, StrsAre vs ys → ∀ {i : Nat} {v : Value}, vs[i]? = some v → ∃ t x, ys[i]? = some x ∧ v = .str x t
  | _, _, .nil, _, _, h => by cases h
  | _, _, .cons x t r, 0, v, h => ⟨t, x, rfl, by simpa using h.symm⟩
  | _, _, .cons x t r, i + 1, v, h => strs_at r (i := i) h
end Mine
namespace Mine
theorem str_app_empty (x : Str) : x ++ (Str.ofString "") = x := by
  cases x with | mk c => show Str.mk (c ++ #[]) = _; simp
theorem join_tx : ∀ bs : List Bool, Str.join (Str.ofString "") (bs.map fun b => tx [b]) = tx bs
  | [] => rfl
  | [b] => rfl
  | b :: c :: r => by
    show tx [b] ++ Str.ofString "" ++ Str.join (Str.ofString "") ((c :: r).map fun b => tx [b]) = _
    rw [join_tx (c :: r), str_app_empty, tx_append]; rfl
theorem txt_join_tx (bs : List Bool) : Txt.join (Str.ofString "") (bs.map fun b => tx [b]) = tx bs := by
  show Builtin.Str.glued _ _ = _
  rw [StrLaws.glued_eq_join, join_tx]
theorem tx_weight (bs : List Bool) : ((bs.map fun b => tx [b]).map (·.length)).sum = bs.length := by
  induction bs with
  | nil => rfl
  | cons b r ih =>
    have : (tx [b]).length = 1 := tx_len [b]
    simp only [List.map_cons, List.sum_cons, List.length_cons, ih, this]; omega
theorem item_bit (n : Int) : Txt.item (Str.ofString " \t") (Int.fmod n 2) = tx [bitOf n] := by
  have h : Int.fmod n 2 = 0 ∨ Int.fmod n 2 = 1 := by
    have h1 := Int.fmod_nonneg_of_pos n (show (0 : Int) < 2 by decide)
    have h2 := Int.fmod_lt_of_pos n (show (0 : Int) < 2 by decide)
    omega
  unfold bitOf
  rcases h with h | h <;> rw [h] <;> rfl
end Mine
open PySem PySem.W PyProof.Rows PySem.Calls
set_option maxRecDepth 100000
namespace Mine
theorem off_tail {a b : Nat} {o : Obj} {R : List (Addr × Obj)} (h1 : a ≠ b) (h : ∀ p ∈ R, p.1 ≠ b) : ∀ p ∈ ((a, o) :: R : List (Addr × Obj)), p.1 ≠ b := List.forall_mem_cons.mpr ⟨h1, h⟩
theorem st_lead {M : Model} {A : Around} {E : Value → Shared → Prop} {s : Shared} {g : Heap} {L fa : Nat} {m : Str → Option Value} {v : Value} {v₀ : Option Value} {Q : Unit → Shared → Prop} {R : List (Addr × Obj)} {o1 o2 o3 o4 o5 o6 o7 : Obj}
    (F : Fr g L s.heap m) (N : News g L s.heap (celL L o1 o2 o3 o4 o5 o6 o7 R)) (hO : Off L R) (hd : o1.data = .cell v₀)
    (h : ∀ h' o', Fr g L h' m → News g L h' (celL L o' o2 o3 o4 o5 o6 o7 R) → o'.data = .cell (some v) → Q () { s with heap := h' }) : wpAny M A (storeName (lawE L fa) "lead" v) Q E s :=
  storeX_C (c := L + 1) (g := fun o' => celL L o' o2 o3 o4 o5 o6 o7 R) F N (by with_unfolding_all rfl) (UpdF.tail (by show @Ne Nat _ _; omega) (UpdF.tail (by show @Ne Nat _ _; omega) (UpdF.tail (by show @Ne Nat _ _; omega) (UpdF.tail (by show @Ne Nat _ _; omega) (UpdF.tail (by show @Ne Nat _ _; omega) (UpdF.tail (by show @Ne Nat _ _; omega) (UpdF.head (hO.ne (L + 1) (by omega) (by omega))))))))) hd h
theorem st_size {M : Model} {A : Around} {E : Value → Shared → Prop} {s : Shared} {g : Heap} {L fa : Nat} {m : Str → Option Value} {v : Value} {v₀ : Option Value} {Q : Unit → Shared → Prop} {R : List (Addr × Obj)} {o1 o2 o3 o4 o5 o6 o7 : Obj}
    (F : Fr g L s.heap m) (N : News g L s.heap (celL L o1 o2 o3 o4 o5 o6 o7 R)) (hO : Off L R) (hd : o2.data = .cell v₀)
    (h : ∀ h' o', Fr g L h' m → News g L h' (celL L o1 o' o3 o4 o5 o6 o7 R) → o'.data = .cell (some v) → Q () { s with heap := h' }) : wpAny M A (storeName (lawE L fa) "size" v) Q E s :=
  storeX_C (c := L + 1 + 1) (g := fun o' => celL L o1 o' o3 o4 o5 o6 o7 R) F N (by with_unfolding_all rfl) (UpdF.tail (by show @Ne Nat _ _; omega) (UpdF.tail (by show @Ne Nat _ _; omega) (UpdF.tail (by show @Ne Nat _ _; omega) (UpdF.tail (by show @Ne Nat _ _; omega) (UpdF.tail (by show @Ne Nat _ _; omega) (UpdF.head (off_tail (by omega) (hO.ne (L + 1 + 1) (by omega) (by omega))))))))) hd h
theorem st_tabs {M : Model} {A : Around} {E : Value → Shared → Prop} {s : Shared} {g : Heap} {L fa : Nat} {m : Str → Option Value} {v : Value} {v₀ : Option Value} {Q : Unit → Shared → Prop} {R : List (Addr × Obj)} {o1 o2 o3 o4 o5 o6 o7 : Obj}
    (F : Fr g L s.heap m) (N : News g L s.heap (celL L o1 o2 o3 o4 o5 o6 o7 R)) (hO : Off L R) (hd : o3.data = .cell v₀)
    (h : ∀ h' o', Fr g L h' m → News g L h' (celL L o1 o2 o' o4 o5 o6 o7 R) → o'.data = .cell (some v) → Q () { s with heap := h' }) : wpAny M A (storeName (lawE L fa) "tabs" v) Q E s :=
  storeX_C (c := L + 1 + 1 + 1) (g := fun o' => celL L o1 o2 o' o4 o5 o6 o7 R) F N (by with_unfolding_all rfl) (UpdF.tail (by show @Ne Nat _ _; omega) (UpdF.tail (by show @Ne Nat _ _; omega) (UpdF.tail (by show @Ne Nat _ _; omega) (UpdF.tail (by show @Ne Nat _ _; omega) (UpdF.head (off_tail (by omega) (off_tail (by omega) (hO.ne (L + 1 + 1 + 1) (by omega) (by omega))))))))) hd h
theorem st_line {M : Model} {A : Around} {E : Value → Shared → Prop} {s : Shared} {g : Heap} {L fa : Nat} {m : Str → Option Value} {v : Value} {v₀ : Option Value} {Q : Unit → Shared → Prop} {R : List (Addr × Obj)} {o1 o2 o3 o4 o5 o6 o7 : Obj}
    (F : Fr g L s.heap m) (N : News g L s.heap (celL L o1 o2 o3 o4 o5 o6 o7 R)) (hO : Off L R) (hd : o4.data = .cell v₀)
    (h : ∀ h' o', Fr g L h' m → News g L h' (celL L o1 o2 o3 o' o5 o6 o7 R) → o'.data = .cell (some v) → Q () { s with heap := h' }) : wpAny M A (storeName (lawE L fa) "line" v) Q E s :=
  storeX_C (c := L + 1 + 1 + 1 + 1) (g := fun o' => celL L o1 o2 o3 o' o5 o6 o7 R) F N (by with_unfolding_all rfl) (UpdF.tail (by show @Ne Nat _ _; omega) (UpdF.tail (by show @Ne Nat _ _; omega) (UpdF.tail (by show @Ne Nat _ _; omega) (UpdF.head (off_tail (by omega) (off_tail (by omega) (off_tail (by omega) (hO.ne (L + 1 + 1 + 1 + 1) (by omega) (by omega))))))))) hd h
theorem st_lasts {M : Model} {A : Around} {E : Value → Shared → Prop} {s : Shared} {g : Heap} {L fa : Nat} {m : Str → Option Value} {v : Value} {v₀ : Option Value} {Q : Unit → Shared → Prop} {R : List (Addr × Obj)} {o1 o2 o3 o4 o5 o6 o7 : Obj}
    (F : Fr g L s.heap m) (N : News g L s.heap (celL L o1 o2 o3 o4 o5 o6 o7 R)) (hO : Off L R) (hd : o5.data = .cell v₀)
    (h : ∀ h' o', Fr g L h' m → News g L h' (celL L o1 o2 o3 o4 o' o6 o7 R) → o'.data = .cell (some v) → Q () { s with heap := h' }) : wpAny M A (storeName (lawE L fa) "lasts" v) Q E s :=
  storeX_C (c := L + 1 + 1 + 1 + 1 + 1) (g := fun o' => celL L o1 o2 o3 o4 o' o6 o7 R) F N (by with_unfolding_all rfl) (UpdF.tail (by show @Ne Nat _ _; omega) (UpdF.tail (by show @Ne Nat _ _; omega) (UpdF.head (off_tail (by omega) (off_tail (by omega) (off_tail (by omega) (off_tail (by omega) (hO.ne (L + 1 + 1 + 1 + 1 + 1) (by omega) (by omega))))))))) hd h
theorem st_longer {M : Model} {A : Around} {E : Value → Shared → Prop} {s : Shared} {g : Heap} {L fa : Nat} {m : Str → Option Value} {v : Value} {v₀ : Option Value} {Q : Unit → Shared → Prop} {R : List (Addr × Obj)} {o1 o2 o3 o4 o5 o6 o7 : Obj}
    (F : Fr g L s.heap m) (N : News g L s.heap (celL L o1 o2 o3 o4 o5 o6 o7 R)) (hO : Off L R) (hd : o6.data = .cell v₀)
    (h : ∀ h' o', Fr g L h' m → News g L h' (celL L o1 o2 o3 o4 o5 o' o7 R) → o'.data = .cell (some v) → Q () { s with heap := h' }) : wpAny M A (storeName (lawE L fa) "longer" v) Q E s :=
  storeX_C (c := L + 1 + 1 + 1 + 1 + 1 + 1) (g := fun o' => celL L o1 o2 o3 o4 o5 o' o7 R) F N (by with_unfolding_all rfl) (UpdF.tail (by show @Ne Nat _ _; omega) (UpdF.head (off_tail (by omega) (off_tail (by omega) (off_tail (by omega) (off_tail (by omega) (off_tail (by omega) (hO.ne (L + 1 + 1 + 1 + 1 + 1 + 1) (by omega) (by omega))))))))) hd h
theorem st_tab {M : Model} {A : Around} {E : Value → Shared → Prop} {s : Shared} {g : Heap} {L fa : Nat} {m : Str → Option Value} {v : Value} {v₀ : Option Value} {Q : Unit → Shared → Prop} {R : List (Addr × Obj)} {o1 o2 o3 o4 o5 o6 o7 : Obj}
    (F : Fr g L s.heap m) (N : News g L s.heap (celL L o1 o2 o3 o4 o5 o6 o7 R)) (hO : Off L R) (hd : o7.data = .cell v₀)
    (h : ∀ h' o', Fr g L h' m → News g L h' (celL L o1 o2 o3 o4 o5 o6 o' R) → o'.data = .cell (some v) → Q () { s with heap := h' }) : wpAny M A (storeName (lawE L fa) "tab" v) Q E s :=
  storeX_C (c := L + 1 + 1 + 1 + 1 + 1 + 1 + 1) (g := fun o' => celL L o1 o2 o3 o4 o5 o6 o' R) F N (by with_unfolding_all rfl) (UpdF.head (off_tail (by omega) (off_tail (by omega) (off_tail (by omega) (off_tail (by omega) (off_tail (by omega) (off_tail (by omega) (hO.ne (L + 1 + 1 + 1 + 1 + 1 + 1 + 1) (by omega) (by omega))))))))) hd h
theorem News.tl {g h : Heap} {L : Addr} {p : Addr × Obj} {a : List (Addr × Obj)} (N : News g L h (p :: a)) : News g L h a := fun q hq => N q (.tail _ hq)
end Mine
local macro_rules | `(tactic| walk_at "mine stn") => `(tactic| first | k_asm | exact Mine.News.tl (by k_asm) | exact Mine.News.tl (Mine.News.tl (by k_asm)) | exact Mine.News.tl (Mine.News.tl (Mine.News.tl (by k_asm))))
namespace Mine
end Mine
local macro_rules | `(tactic| walk_at "mine cell") => `(tactic| ((first
  | ((with_reducible show wpAny _ _ (storeName _ (Str.ofString "size") _) _ _ _); k_dflt (refine Mine.st_size (by k_asm) (by walk_at "mine stn") (by assumption) (by assumption) ?_))
  | ((with_reducible show wpAny _ _ (storeName _ (Str.ofString "tabs") _) _ _ _); k_dflt (refine Mine.st_tabs (by k_asm) (by walk_at "mine stn") (by assumption) (by assumption) ?_))); (intro h' o' F' N' d'); (try k_sweep); (try dsimp only)))
namespace Mine
end Mine
open PySem PySem.W PyProof.Rows PySem.Calls
set_option maxRecDepth 100000
namespace Mine
/-- all texts of at most n signs -/
noncomputable def lists : Nat → List (List Bool)
  | 0 => [[]]
  | n + 1 => [] :: (lists n).flatMap fun r => [true :: r, false :: r]
theorem mem_lists : ∀ (n : Nat) (bs : List Bool), bs.length ≤ n → bs ∈ lists n
  | 0, [], _ => .head _
  | _ + 1, [], _ => .head _
  | n + 1, b :: r, h => by
    refine .tail _ (List.mem_flatMap.mpr ⟨r, mem_lists n r (by simpa using h), ?_⟩)
    cases b
    · exact .tail _ (.head _)
    · exact .head _
theorem fin_all {P : List Bool → Bool} (n : Nat) (h : (lists n).all P = true) (bs : List Bool) (hl : bs.length ≤ n) : P bs = true := List.all_eq_true.mp h bs (mem_lists n bs hl)
theorem cnt_tab (bs : List Bool) (hl : bs.length ≤ 6) : Txt.count (tx bs) (Str.ofString "\t") = ((bs.count true : Nat) : Int) :=
  of_decide_eq_true (fin_all (P := fun bs => decide (Txt.count (tx bs) (Str.ofString "\t") = ((bs.count true : Nat) : Int))) 6 (by decide +kernel) bs hl)
theorem cnt_sp (bs : List Bool) (hl : bs.length ≤ 6) : Txt.count (tx bs) (Str.ofString " ") = ((bs.count false : Nat) : Int) :=
  of_decide_eq_true (fin_all (P := fun bs => decide (Txt.count (tx bs) (Str.ofString " ") = ((bs.count false : Nat) : Int))) 6 (by decide +kernel) bs hl)
end Mine
open PySem PySem.W PyProof.Rows PySem.Calls
namespace Mine
section
variable {prog : Program} {w : World} {A : Around} {h₀ : Heap} {L : Addr} {m : Str → Option Value} {env : Env} {elt : Expr} {x : Str} {scope : Scope} {cl : List (Str × Addr)} {s₁ : Shared} {news : List (Addr × Obj)} {Fin : Shared → List Value → List (Addr × Obj) → Prop}
theorem src_range {n : Nat} {r : Addr} {t u v : Tok} (V : Nat → Value → Prop) (hr : IsRange s₁.heap r 0 ((n : Int) + 1) 1 t u v) (hn : n ≤ 1000) (hh : A.handled = none) (F : Fr h₀ L s₁.heap m) (N : News h₀ L s₁.heap news)
    (step : ∀ i I oI C oC D m₂ h tk t ys (E' : Value → Shared → Prop), i < n + 1 → LCg.NsObj oC m₂ → m₂ x = some (.int (i : Int) t) → Fr h₀ L h m → News h₀ L h ((I, oI) :: (C, oC) :: (D, LCg.lst ys) :: news) → LCg.Off3 I C D news → ((@Ne Nat I C) ∧ (@Ne Nat I D) ∧ (@Ne Nat C D)) →
      wpAny (model prog w) A (eval elt (compEnvC scope cl C env)) (fun y s' => Box (∃ h' tk', s' = { s₁ with heap := h', toks := tk' } ∧ Fr h₀ L h' m ∧ News h₀ L h' ((I, oI) :: (C, oC) :: (D, LCg.lst ys) :: news) ∧ V i y)) E' { s₁ with heap := h, toks := tk })
    (fin : ∀ g' ys, ys.length = n + 1 → (∀ i y, ys[i]? = some y → V i y) → Fin { s₁ with heap := g' } ys news) : LCg.CompSrc prog w A h₀ L m env elt x scope cl Fin (.ref r) s₁ := by
  refine LCg.CompSrc.range (n := n + 1) hh F N hr (small_one (by omega) (by omega) (by omega) (by omega)) (by rw [rangeSize_one]; split <;> omega) (by show _ ≤ 16777216; omega) ?_
  intro g'
  refine comp_keep (n + 1) V trivial ?_ (fin g')
  rintro i v I oI C oC D m₂ h tk ys E' hi ⟨t', rfl⟩ hC hx F' N' off ne
  rw [Int.zero_add] at hx
  exact step i I oI C oC D m₂ h tk t' ys E' hi hC hx F' N' off ne
theorem src_list {ax : Addr} {vs : List Value} {k : Nat} (V : Nat → Value → Prop) (hm : (ax, W.listOf vs.toArray k) ∈ news) (hn : vs.length ≤ 1000) (hh : A.handled = none) (F : Fr h₀ L s₁.heap m) (N : News h₀ L s₁.heap news)
    (step : ∀ i I oI C oC D m₂ h tk v ys (E' : Value → Shared → Prop), i < vs.length → vs[i]? = some v → LCg.NsObj oC m₂ → m₂ x = some v → Fr h₀ L h m → News h₀ L h ((I, oI) :: (C, oC) :: (D, LCg.lst ys) :: news) → LCg.Off3 I C D news → ((@Ne Nat I C) ∧ (@Ne Nat I D) ∧ (@Ne Nat C D)) →
      wpAny (model prog w) A (eval elt (compEnvC scope cl C env)) (fun y s' => Box (∃ h' tk', s' = { s₁ with heap := h', toks := tk' } ∧ Fr h₀ L h' m ∧ News h₀ L h' ((I, oI) :: (C, oC) :: (D, LCg.lst ys) :: news) ∧ V i y)) E' { s₁ with heap := h, toks := tk })
    (fin : ∀ g' ys, ys.length = vs.length → (∀ i y, ys[i]? = some y → V i y) → Fin { s₁ with heap := g' } ys news) : LCg.CompSrc prog w A h₀ L m env elt x scope cl Fin (.ref ax) s₁ := by
  refine LCg.CompSrc.ledger (its := vs.toArray) (k := k) hh F N hm (by show vs.toArray.size ≤ 16777216; rw [List.size_toArray]; omega) ?_
  intro g'
  refine comp_keep _ V (Or.inr ⟨_, hm, rfl, _, rfl⟩) ?_ (fun ys hl hv => fin g' ys (by simpa using hl) hv)
  intro i v I oI C oC D m₂ h tk ys E' hi hv hC hx F' N' off ne
  exact step i I oI C oC D m₂ h tk v ys E' (by simpa using hi) (by simpa using hv) hC hx F' N' off ne
end
theorem strs_map {n : Nat} {f : Nat → Str} {ys : List Value} (hl : ys.length = n) (h : ∀ (i : Nat) y, ys[i]? = some y → ∃ t, y = Value.str (f i) t) : StrsAre ys ((List.range n).map f) :=
  strs_get (by simp [hl]) fun i y hy => by
    obtain ⟨t, e⟩ := h i y hy
    have : i < n := by
      rcases Nat.lt_or_ge i ys.length with q | q
      · omega
      · rw [List.getElem?_eq_none q] at hy; cases hy
    exact ⟨t, f i, by simp [this], e⟩
theorem ints_map {n : Nat} {f : Nat → Int} {ys : List Value} (hl : ys.length = n) (h : ∀ (i : Nat) y, ys[i]? = some y → ∃ t, y = Value.int (f i) t) : IntsAre ys ((List.range n).map f) :=
  ints_get (by simp [hl]) fun i y hy => by
    obtain ⟨t, e⟩ := h i y hy
    have : i < n := by
      rcases Nat.lt_or_ge i ys.length with q | q
      · omega
      · rw [List.getElem?_eq_none q] at hy; cases hy
    exact ⟨t, f i, by simp [this], e⟩
theorem off_new {L D : Nat} {o o1 o2 o3 o4 o5 o6 o7 : Obj} {R : List (Addr × Obj)} (h : LCg.Off1 D (celL L o1 o2 o3 o4 o5 o6 o7 R)) (hL : D ≠ L) (hO : Off L R) : Off L ((D, o) :: R) := by
  obtain ⟨h7, h6, h5, h4, h3, h2, h1, _⟩ := h
  dsimp only at h1 h2 h3 h4 h5 h6 h7
  exact Off.cons (by dsimp only; omega) hO
noncomputable def stB (n c : Nat) : List Bool := List.replicate c true ++ List.replicate (n - c) false
theorem mul_tab (i : Nat) (h : i ≤ 10) : Txt.mul (Str.ofString "\t") (i : Int) = tx (List.replicate i true) :=
  (by decide +kernel : ∀ i : Fin 11, Txt.mul (Str.ofString "\t") ((i : Nat) : Int) = tx (List.replicate i true)) ⟨i, by omega⟩
theorem mul_sp (i : Nat) (h : i ≤ 10) : Txt.mul (Str.ofString " ") (i : Int) = tx (List.replicate i false) :=
  (by decide +kernel : ∀ i : Fin 11, Txt.mul (Str.ofString " ") ((i : Nat) : Int) = tx (List.replicate i false)) ⟨i, by omega⟩
end Mine
open PySem PySem.W PyProof.Rows PySem.Calls
set_option maxRecDepth 100000
set_option maxHeartbeats 1000000
local macro_rules | `(tactic| walk_at "mine comp") => `(tactic| (k_here; k_dflt (refine LCg.ListComp_U (F₀ := by k_asm) (by with_unfolding_all rfl) (by decide) (by rfl) (by decide) (by rfl) ?_)))
namespace Mine
local macro_rules | `(tactic| walk_at "CompSrc") => `(tactic| refine Box.out ?_)
local macro_rules | `(tactic| walk_at "eval ListComp") => `(tactic| walk_at "mine comp")
local macro_rules | `(tactic| k_all) => `(tactic| with_unfolding_all assumption)
theorem seg1 (prog : Program) (w : World) (p : Program) (loose : List Str) (mean : ExcName → Option Value) (mg mb : Str → Option Value) (g : Heap) (L fa : Addr) (s s0 : Shared) (R : List (Addr × Obj)) (ds : List Int) (D : Addr) (zs : List Value) (k : Nat)
    (H : LSt s0 g L none none none none none none none [("draws", .ref D)] R s) (hD : (D, W.listOf zs.toArray k) ∈ R) (hI : IntsAre zs ds) (hn : ds.length ≤ 10) (hO : Off L R)
    (B : Below callerA g [] g) (X : (hd.heap_39 w.params).In g) (T : Top p loose mean mg mb g) (l0 : 121 < L) (Q : Flow → Shared → Prop)
    (hQ : ∀ s' t, LSt s0 g L (some (.str (tx (ds.map bitOf)) t)) none none none none none none [("draws", .ref D)] R s' → wpAny (model prog w) (callerA.deeper (lawE L fa)) (execs ((fnB 13).drop 2) (lawE L fa)) Q (fun _ _ => False) s') :
    wpAny (model prog w) (callerA.deeper (lawE L fa)) (execs ((fnB 13).drop 1) (lawE L fa)) Q (fun _ _ => False) s := by
  w_top off
  refine execs_cut 1 (fun s' => Box (∃ t, LSt s0 g L (some (.str (tx (ds.map bitOf)) t)) none none none none none none [("draws", .ref D)] R s')) ?_ (fun s' ⟨t, h⟩ => hQ s' t h)
  conv in (List.take _ _) => whnf
  simp only [List.take_zero]
  refine LSt.elim H ?_
  clear H
  intro h tk m o1 o2 o3 o4 o5 o6 o7 F N d1 d2 d3 d4 d5 d6 d7
  (try k_unmd); k_fold
  (try dsimp only)
  k_steps
  refine Box.in ?_
  have hzl := hI.length
  refine LCg.CompSrc.ledger (its := zs.toArray) (k := k) rfl F N (celL.mem hD) (by show zs.toArray.size ≤ sizeLine; rw [List.size_toArray]; show _ ≤ 16777216; omega) ?_
  intro g'
  refine comp_keep _ (fun i y => ∃ t b, (ds.map bitOf)[i]? = some b ∧ y = .str (tx [b]) t) (Or.inr ⟨_, celL.mem hD, rfl, _, rfl⟩) ?step ?fin
  case step =>
    clear F N
    intro i v I oI C oC D' m2 h' tk' ys E' hi hv hC hx F' N' off ne
    obtain ⟨t, n, hn', rfl⟩ := ints_at hI (by simpa using hv)
    k_steps
    rw [item_bit]
    exact Box.in (keep_end F' N' ⟨_, _, by rw [List.getElem?_map, hn']; rfl, rfl⟩)
  case fin =>
    clear F N
    intro ys hl hV D' h' tk' F' N' _
    k_steps
    have hS : StrsAre ys ((ds.map bitOf).map fun b => tx [b]) := strs_get (by simp [hl, hzl]) (fun i y hy => by
      obtain ⟨t, b, e, e2⟩ := hV i y hy
      exact ⟨t, _, by rw [List.getElem?_map, e]; rfl, e2⟩)
    refine join_listW (ys := (ds.map bitOf).map fun b => tx [b]) (N'.isList (.head _)) hS (by decide) (by rw [tx_weight]; simp only [List.length_map]; omega) ?_
    intro t' k'
    rw [txt_join_tx]
    refine st_lead F' (News.sub N' (fun p hp => .tail _ hp)) hO d1 ?_
    clear F' N' d1
    intro h2 o2' F2 N2 d1'
    (try dsimp only)
    k_steps
    refine Box.in ?_
    exact ⟨_, LSt.intro F2 N2 d1' d2 d3 d4 d5 d6 d7 (by kst_all)⟩
end Mine
local macro_rules | `(tactic| walk_at "mine pad") => `(tactic| skip)
local macro_rules | `(tactic| walk_at "mine pad") => `(tactic| skip)
local macro_rules | `(tactic| walk_at "mine pad") => `(tactic| skip)
local macro_rules | `(tactic| walk_at "mine pad") => `(tactic| skip)
open PySem PySem.W PyProof.Rows PySem.Calls
set_option maxRecDepth 100000
set_option maxHeartbeats 1000000
namespace Mine
section
noncomputable abbrev LSeg (prog : Program) (w : World) (L fa : Addr) (k : Nat) (Q : Flow → Shared → Prop) (s : Shared) : Prop := wpAny (model prog w) (callerA.deeper (lawE L fa)) (execs ((fnB 13).drop k) (lawE L fa)) Q (fun _ _ => False) s
local macro_rules | `(tactic| walk_at "storeName") => `(tactic| (k_here; walk_at "mine cell"))
local macro_rules | `(tactic| walk_at "call builtin:sum") => `(tactic| refine Box.out ?_)
theorem seg2 (prog : Program) (w : World) (p : Program) (loose : List Str) (mean : ExcName → Option Value) (mg mb : Str → Option Value) (g : Heap) (L fa : Addr) (s0 : Shared) (R : List (Addr × Obj)) (B : Below callerA g [] g) (X : (hd.heap_39 w.params).In g) (T : Top p loose mean mg mb g) (hO : Off L R) (Q : Flow → Shared → Prop) (s : Shared) (bs : List Bool) (ds : List Int) (D : Addr) (zs : List Value) (k : Nat) (t : Tok)
    (H : LSt s0 g L (some (.str (tx bs) t)) none none none none none none [("draws", .ref D)] R s) (hD : (D, W.listOf zs.toArray k) ∈ R) (hI : IntsAre zs ds) (hn : ds.length ≤ 10) (hb : bs.length ≤ 6)
    (hQ : ∀ s' t2 t3 t4, LSt s0 g L (some (.str (tx bs) t)) (some (.int (bs.length : Int) t2)) (some (.int ((bs.count true : Nat) : Int) t3)) none none none none [("total", .int ds.sum t4)] R s' → LSeg prog w L fa 3 Q s') :
    LSeg prog w L fa 2 Q s := by
  w_top off
  refine execs_cut 1 (fun s' => Box (∃ t2 t3 t4, LSt s0 g L (some (.str (tx bs) t)) (some (.int (bs.length : Int) t2)) (some (.int ((bs.count true : Nat) : Int) t3)) none none none none [("total", .int ds.sum t4)] R s')) ?_ (fun s' ⟨t2, t3, t4, h⟩ => hQ s' t2 t3 t4 h)
  conv in (List.take _ _) => whnf
  simp only [List.take_zero]
  refine LSt.elim H ?_
  clear H
  intro h tk m o1 o2 o3 o4 o5 o6 o7 F N d1 d2 d3 d4 d5 d6 d7
  have hD' := @celL.mem L o1 o2 o3 o4 o5 o6 o7 R _ hD
  have la := tx_len bs
  (try k_unmd); k_fold
  (try dsimp only)
  k_steps
  refine Box.in ?_
  k_dflt (refine sumK (by rfl) (by k_asm) (by k_asm) (News.isList (by k_asm) (by assumption)) (by assumption) ?_)
  intro _ _ _ F' N'
  k_sweep
  (try dsimp only)
  k_steps
  refine Box.in ?_
  rename _ = Data.cell (some (Value.int (Txt.count _ _) _)) => dB
  rename _ = Data.cell (some (Value.int (((tx bs).length : Nat) : Int) _)) => dA
  rw [cnt_tab bs hb] at dB
  rw [la] at dA
  exact ⟨_, _, _, LSt.intro (by k_asm) (by k_asm) d1 dA dB d4 d5 d6 d7 (by kst_all)⟩
end
end Mine
local macro_rules | `(tactic| walk_at "mine pad") => `(tactic| skip)
local macro_rules | `(tactic| walk_at "mine pad") => `(tactic| skip)
local macro_rules | `(tactic| walk_at "mine pad") => `(tactic| skip)
open PySem PySem.W PyProof.Rows PySem.Calls
set_option maxRecDepth 100000
set_option maxHeartbeats 1000000
local macro_rules | `(tactic| walk_at "mine acomp") => `(tactic| (k_here; k_dflt (refine LCg.Assign_ListComp_U (F₀ := by k_asm) (by rfl) (by with_unfolding_all rfl) (by with_unfolding_all rfl) (by decide) (by rfl) (by decide) (by rfl) (by rfl) (by rfl) ?_)))
namespace Mine
section
local macro_rules | `(tactic| walk_at "CompSrc") => `(tactic| refine Box.out ?_)
local macro_rules | `(tactic| walk_at "exec Assign cons ListComp") => `(tactic| walk_at "mine acomp")
theorem seg3 (prog : Program) (w : World) (p : Program) (loose : List Str) (mean : ExcName → Option Value) (mg mb : Str → Option Value) (g : Heap) (L fa : Addr) (s0 : Shared) (R : List (Addr × Obj)) (B : Below callerA g [] g) (X : (hd.heap_39 w.params).In g) (T : Top p loose mean mg mb g) (hO : Off L R) (Q : Flow → Shared → Prop) (s : Shared) (bs : List Bool) (n : Nat) (c1 c3 : Option Value) (t : Tok) (tot : Value) (hn : n ≤ 6)
    (H : LSt s0 g L c1 (some (.int (n : Int) t)) c3 none none none none [("total", tot)] R s)
    (hQ : ∀ s' D ys, StrsAre ys ((List.range (n + 1)).map fun c => tx (stB n c)) → Off L ((D, LCg.lst ys) :: R) → LSt s0 g L c1 (some (.int (n : Int) t)) c3 none none none none [("straight", .ref D), ("total", tot)] ((D, LCg.lst ys) :: R) s' → LSeg prog w L fa 4 Q s') :
    LSeg prog w L fa 3 Q s := by
  w_top off
  refine execs_cut 1 (fun s' => Box (∃ D ys, StrsAre ys ((List.range (n + 1)).map fun c => tx (stB n c)) ∧ Off L ((D, LCg.lst ys) :: R) ∧ LSt s0 g L c1 (some (.int (n : Int) t)) c3 none none none none [("straight", .ref D), ("total", tot)] ((D, LCg.lst ys) :: R) s')) ?_ (fun s' ⟨D, ys, h1, h2, h3⟩ => hQ s' D ys h1 h2 h3)
  conv in (List.take _ _) => whnf
  simp only [List.take_zero]
  refine LSt.elim H ?_
  clear H
  intro h tk m o1 o2 o3 o4 o5 o6 o7 F N d1 d2 d3 d4 d5 d6 d7
  (try k_unmd); k_fold
  (try dsimp only)
  k_steps
  refine Box.in ?_
  rename IsRange _ _ _ _ _ _ _ _ => hr
  refine src_range (fun i y => ∃ t, y = .str (tx (stB n i)) t) hr (by omega) rfl (by k_asm) (by k_asm) ?step ?fin
  case step =>
    k_sweep
    intro i I oI C oC D' m2 h' tk' t' ys E' hi hC hx F' N' off ne
    k_steps
    refine Box.in ?_
    have e : ((n : Int) - (i : Int)) = ((n - i : Nat) : Int) := by omega
    rw [e, mul_tab i (by omega), mul_sp (n - i) (by omega), tx_append]
    exact keep_end F' N' ⟨_, rfl⟩
  case fin =>
    k_sweep
    intro g' ys hl hV D' h' tk' F' N' o1
    k_steps
    refine Box.in ?_
    exact ⟨_, _, strs_map hl hV, off_new o1 (N' _ (.head _)).2.1 hO, LSt.intro F' (News.swap N') d1 d2 d3 d4 d5 d6 d7 (by kst_all)⟩
end
end Mine
local macro_rules | `(tactic| walk_at "mine pad") => `(tactic| skip)
local macro_rules | `(tactic| walk_at "mine pad") => `(tactic| skip)
local macro_rules | `(tactic| walk_at "mine pad") => `(tactic| skip)
open PySem PySem.W PyProof.Rows PySem.Calls
set_option maxRecDepth 100000
set_option maxHeartbeats 1000000
namespace Mine
section
noncomputable def wkF (bs : List Bool) (c : Nat) : Int := 2 * (((bs.take c).count false : Nat) + ((bs.drop c).count true : Nat) : Int)
local macro_rules | `(tactic| walk_at "CompSrc") => `(tactic| refine Box.out ?_)
local macro_rules | `(tactic| walk_at "exec Assign cons ListComp") => `(tactic| walk_at "mine acomp")
theorem seg4 (prog : Program) (w : World) (p : Program) (loose : List Str) (mean : ExcName → Option Value) (mg mb : Str → Option Value) (g : Heap) (L fa : Addr) (s0 : Shared) (R : List (Addr × Obj)) (B : Below callerA g [] g) (X : (hd.heap_39 w.params).In g) (T : Top p loose mean mg mb g) (hO : Off L R) (Q : Flow → Shared → Prop) (s : Shared) (bs : List Bool) (n : Nat) (c3 : Option Value) (t1 t : Tok) (tot st : Value) (hn : n ≤ 6) (hbn : bs.length = n)
    (H : LSt s0 g L (some (.str (tx bs) t1)) (some (.int (n : Int) t)) c3 none none none none [("straight", st), ("total", tot)] R s)
    (hQ : ∀ s' D ys, IntsAre ys ((List.range (n + 1)).map (wkF bs)) → Off L ((D, LCg.lst ys) :: R) → LSt s0 g L (some (.str (tx bs) t1)) (some (.int (n : Int) t)) c3 none none none none [("walk", .ref D), ("straight", st), ("total", tot)] ((D, LCg.lst ys) :: R) s' → LSeg prog w L fa 5 Q s') :
    LSeg prog w L fa 4 Q s := by
  w_top off
  refine execs_cut 1 (fun s' => Box (∃ D ys, IntsAre ys ((List.range (n + 1)).map (wkF bs)) ∧ Off L ((D, LCg.lst ys) :: R) ∧ LSt s0 g L (some (.str (tx bs) t1)) (some (.int (n : Int) t)) c3 none none none none [("walk", .ref D), ("straight", st), ("total", tot)] ((D, LCg.lst ys) :: R) s')) ?_ (fun s' ⟨D, ys, h1, h2, h3⟩ => hQ s' D ys h1 h2 h3)
  conv in (List.take _ _) => whnf
  simp only [List.take_zero]
  refine LSt.elim H ?_
  clear H
  intro h tk m o1 o2 o3 o4 o5 o6 o7 F N d1 d2 d3 d4 d5 d6 d7
  have la := tx_len bs
  (try k_unmd); k_fold
  (try dsimp only)
  k_steps
  refine Box.in ?_
  rename IsRange _ _ _ _ _ _ _ _ => hr
  refine src_range (fun i y => ∃ t, y = .int (wkF bs i) t) hr (by omega) rfl (by k_asm) (by k_asm) ?step ?fin
  case step =>
    k_sweep
    intro i I oI C oC D' m2 h' tk' t' ys E' hi hC hx F' N' off ne
    k_steps
    refine Box.in ?_
    rw [tx_to bs (k := (i : Int)) (by omega) (by omega), tx_from bs (k := (i : Int)) (by omega) (by omega), Int.toNat_natCast, cnt_sp _ (by rw [List.length_take]; omega), cnt_tab _ (by rw [List.length_drop]; omega)]
    exact keep_end (by k_asm) (by k_asm) ⟨_, rfl⟩
  case fin =>
    k_sweep
    intro g' ys hl hV D' h' tk' F' N' o1
    k_steps
    refine Box.in ?_
    exact ⟨_, _, ints_map hl hV, off_new o1 (N' _ (.head _)).2.1 hO, LSt.intro F' (News.swap N') d1 d2 d3 d4 d5 d6 d7 (by kst_all)⟩
end
end Mine
local macro_rules | `(tactic| walk_at "mine pad") => `(tactic| skip)
local macro_rules | `(tactic| walk_at "mine pad") => `(tactic| skip)
local macro_rules | `(tactic| walk_at "mine pad") => `(tactic| skip)
open PySem PySem.W PyProof.Rows PySem.Calls
namespace Mine
/-- a call out of the law's own frame -/
theorem law_use {prog : Program} {w : World} {K : Frag} {p : Program} {loose : List Str} {mean : ExcName → Option Value} {mg mb : Str → Option Value} {r : Nat} {f : Value} {news : List (Addr × Obj)} {args : List Value} {kw : List (Str × Value)} {P : Value → List (Addr × Obj) → Prop}
    {g : Heap} {L fa : Addr} {m : Str → Option Value} {s : Shared} {Q : Value → Shared → Prop} {E : Value → Shared → Prop}
    (h : FnOk prog w K p loose mean mg mb r f news args kw P) (hr : r ≤ 5)
    (B : Below callerA g [] g) (F : Fr g L s.heap m) (X : K.In g) (N : News g L s.heap news) (T : Top p loose mean mg mb g)
    (k : ∀ v h' tk' news', P v news' → Fr g L h' m → News g L h' news' → Q v { s with heap := h', toks := tk' }) :
      wpAny (model prog w) (callerA.deeper (lawE L fa)) (call f args kw) Q E s :=
  FnOk.use (dp := (callerA.deeper (lawE L fa)).depth) (un := (callerA.deeper (lawE L fa)).units) (gd := (callerA.deeper (lawE L fa)).guards) (cn := "law") (cs := fnS 13) (a := fa) (ccd := .ref 123) (cl := cellsFrom (L + 1) (fnS 13).names []) (outer := []) h B F X N T (by with_unfolding_all rfl)
    (by have e : (callerA.deeper (lawE L fa)).depth + 5 < recursionLimit := by with_unfolding_all exact of_decide_eq_true rfl
        omega)
    (by have e : (callerA.deeper (lawE L fa)).units + 8 * 5 < cLine := by with_unfolding_all exact of_decide_eq_true rfl
        omega) k
end Mine
local macro_rules | `(tactic| walk_at "mine mem") => `(tactic| first | assumption | exact List.Mem.head _ | (refine List.Mem.tail _ ?_; walk_at "mine mem"))
namespace Mine
theorem law_units (L fa : Addr) : (callerA.deeper (lawE L fa)).units + 64 < cLine := by with_unfolding_all exact of_decide_eq_true rfl
theorem int_congr {a b : Int} {t : Tok} (h : a = b) : Value.int a t = Value.int b t := by rw [h]
end Mine
open PySem PySem.W PyProof.Rows PySem.Calls
set_option maxRecDepth 100000
set_option maxHeartbeats 1000000
namespace Mine
section
theorem bound3 (x : Int) (k : Nat) : ([-1, 0, if x < 0 then -x else x] : List Int).getD k 0 = -1 ∨ 0 ≤ ([-1, 0, if x < 0 then -x else x] : List Int).getD k 0 := by
  match k with
  | 0 => exact .inl rfl
  | 1 => exact .inr (Int.le_refl 0)
  | 2 => right; show 0 ≤ (if x < 0 then -x else x); split <;> omega
  | _ + 3 => exact .inr (by simp)
local macro_rules | `(tactic| walk_at "pyIter ref") => `(tactic| refine Box.out ?_)
local macro_rules | `(tactic| walk_at "subscriptTail Name Name ref int") => `(tactic| (k_dflt (refine' item_lst ?N ?m ?v ?z ?_; (case N => k_asm); (case m => walk_at "mine mem"); (case v => assumption); (case z => omega))))
local macro_rules | `(tactic| walk_at "call ref") => `(tactic| refine Box.out ?_)
local macro_rules | `(tactic| walk_at "subscriptTail Name BinOp ref int") => `(tactic| refine Box.out ?_)
theorem seg5 (prog : Program) (w : World) (p : Program) (loose : List Str) (mean : ExcName → Option Value) (mg mb : Str → Option Value) (g : Heap) (L fa : Addr) (s0 : Shared) (R : List (Addr × Obj)) (B : Below callerA g [] g) (X : (hd.heap_39 w.params).In g) (T : Top p loose mean mg mb g) (hO : Off L R) (Q : Flow → Shared → Prop) (s : Shared) (bs : List Bool) (n : Nat) (c3 : Option Value) (t1 t t4 : Tok) (tot : Int) (hn : n ≤ 6) (hbn : bs.length = n) (D3 D4 : Addr) (ys3 ys4 : List Value)
    (h3 : (D3, LCg.lst ys3) ∈ R) (h4 : (D4, LCg.lst ys4) ∈ R) (hS : StrsAre ys3 ((List.range (n + 1)).map fun c => tx (stB n c))) (hI : IntsAre ys4 ((List.range (n + 1)).map (wkF bs)))
    (hlev : ∀ c e, c ≤ n → (e = -1 ∨ 0 ≤ e) → levF bs (stB n c) (wkF bs c + e) = wkF bs c ∧ levF (stB n c) bs (wkF bs c + e) = wkF bs c)
    (H : LSt s0 g L (some (.str (tx bs) t1)) (some (.int (n : Int) t)) c3 none none none none [("walk", .ref D4), ("straight", .ref D3), ("total", .int tot t4)] R s)
    (hQ : ∀ s', LSt s0 g L (some (.str (tx bs) t1)) (some (.int (n : Int) t)) c3 none none none none [("walk", .ref D4), ("straight", .ref D3), ("total", .int tot t4)] R s' → LSeg prog w L fa 6 Q s') :
    LSeg prog w L fa 5 Q s := by
  w_top off
  refine execs_cut 1 (fun s' => Box (LSt s0 g L (some (.str (tx bs) t1)) (some (.int (n : Int) t)) c3 none none none none [("walk", .ref D4), ("straight", .ref D3), ("total", .int tot t4)] R s')) ?_ (fun s' h => hQ s' h)
  conv in (List.take _ _) => whnf
  simp only [List.take_zero]
  refine LSt.elim H ?_
  clear H
  intro h tk m o1 o2 o3 o4 o5 o6 o7 F N d1 d2 d3 d4 d5 d6 d7
  have la := tx_len bs
  have l3 := hS.length
  have l4 := hI.length
  rw [List.length_map, List.length_range] at l3 l4
  (try k_unmd); k_fold
  (try dsimp only)
  k_steps
  refine Box.in ?_
  rename IsRange _ _ _ _ _ _ _ _ => hr
  refine loopRange0 (σ := Unit) (n := n + 1) (fun _ _ => [("walk", .ref D4), ("straight", .ref D3), ("total", .int tot t4)]) (fun _ _ => celL L o1 o2 o3 o4 o5 o6 o7 R) (fun _ _ => True) () rfl hr (by omega) (by k_asm) (by k_asm) trivial ?_ ?_
  · k_sweep
    rintro i ⟨⟩ ti m1 h1' tk1 own I hi hj hoff hown F1 N1
    obtain ⟨v3, e3⟩ : ∃ v, ys3[i]? = some v := ⟨_, List.getElem?_eq_getElem (by omega)⟩
    obtain ⟨u3, x3, q3, rfl⟩ := strs_at hS e3
    obtain rfl : tx (stB n i) = x3 := by simpa [hi] using q3
    obtain ⟨v4, e4⟩ : ∃ v, ys4[i]? = some v := ⟨_, List.getElem?_eq_getElem (by omega)⟩
    obtain ⟨u4, x4, q4, rfl⟩ := ints_at hI e4
    obtain rfl : wkF bs i = x4 := by simpa [hi] using q4
    have h3' := List.mem_append_left own (@celL.mem L o1 o2 o3 o4 o5 o6 o7 R _ h3)
    have h4' := List.mem_append_left own (@celL.mem L o1 o2 o3 o4 o5 o6 o7 R _ h4)
    dsimp only [kstB] at F1
    k_sweep
    have hst : (stB n i).length ≤ 10 := by simp [stB]; omega
    have hbl : bs.length ≤ 10 := by omega
    have hp : (Int.fmod (i : Int) 2 = ((0 : Nat) : Int) ∧ 1 - Int.fmod (i : Int) 2 = ((1 : Nat) : Int)) ∨ (Int.fmod (i : Int) 2 = ((1 : Nat) : Int) ∧ 1 - Int.fmod (i : Int) 2 = ((0 : Nat) : Int)) := by
      have h1 := Int.fmod_nonneg_of_pos (i : Int) (show (0 : Int) < 2 by decide)
      have h2 := Int.fmod_lt_of_pos (i : Int) (show (0 : Int) < 2 by decide)
      omega
    (try k_unmd); k_fold
    k_steps
    refine Box.in ?_
    rcases hp with ⟨hp0, hp1⟩ | ⟨hp0, hp1⟩
    · rw [hp0]
      k_dflt (refine' item_lst ?N9 ?m9 ?v9 ?z9 ?_; (case N9 => k_asm); (case m9 => k_mem); (case v9 => rfl); (case z9 => exact (by decide : 2 ≤ 1000)))
      k_steps
      refine Box.in ?_
      rw [hp1]
      k_dflt (refine' item_lst ?N8 ?m8 ?v8 ?z8 ?_; (case N8 => k_asm); (case m8 => k_mem); (case v8 => rfl); (case z8 => exact (by decide : 2 ≤ 1000)))
      k_steps
      refine Box.in ?_
      refine law_use (lev_spec _ _ _ _ _ _ _ _ _ _ _ _ _ _ (by omega) (by omega)) (by decide) B (by k_asm) X (by k_asm) T ?_
      rintro v9 h9 tk9 n9 ⟨e9, t9, e8⟩ F9 N9
      rw [e9] at N9
      clear e9
      subst e8
      k_sweep
      (try dsimp only)
      k_steps
      · exact absurd (hlev i _ (by omega) (bound3 _ _)).1 (by assumption)
      · refine Box.in ?_
        exact ⟨(), trivial, hoff, Mid.intro (by k_asm) (News.sub (by k_asm) (fun p hp => .tail _ (.tail _ (.tail _ hp)))) (by kst_all)⟩
    · rw [hp0]
      k_dflt (refine' item_lst ?N9 ?m9 ?v9 ?z9 ?_; (case N9 => k_asm); (case m9 => k_mem); (case v9 => rfl); (case z9 => exact (by decide : 2 ≤ 1000)))
      k_steps
      refine Box.in ?_
      rw [hp1]
      k_dflt (refine' item_lst ?N8 ?m8 ?v8 ?z8 ?_; (case N8 => k_asm); (case m8 => k_mem); (case v8 => rfl); (case z8 => exact (by decide : 2 ≤ 1000)))
      k_steps
      refine Box.in ?_
      refine law_use (lev_spec _ _ _ _ _ _ _ _ _ _ _ _ _ _ (by omega) (by omega)) (by decide) B (by k_asm) X (by k_asm) T ?_
      rintro v9 h9 tk9 n9 ⟨e9, t9, e8⟩ F9 N9
      rw [e9] at N9
      clear e9
      subst e8
      k_sweep
      (try dsimp only)
      k_steps
      · exact absurd (hlev i _ (by omega) (bound3 _ _)).2 (by assumption)
      · refine Box.in ?_
        exact ⟨(), trivial, hoff, Mid.intro (by k_asm) (News.sub (by k_asm) (fun p hp => .tail _ (.tail _ (.tail _ hp)))) (by kst_all)⟩
  · intro _ m' h' tk' _ F' N'
    k_steps
    refine Box.in ?_
    exact LSt.intro F' N' d1 d2 d3 d4 d5 d6 d7 (by kst_all)
end
end Mine
local macro_rules | `(tactic| walk_at "mine pad") => `(tactic| skip)
local macro_rules | `(tactic| walk_at "mine pad") => `(tactic| skip)
local macro_rules | `(tactic| walk_at "mine pad") => `(tactic| skip)
local macro_rules | `(tactic| walk_at "mine pad") => `(tactic| skip)
local macro_rules | `(tactic| walk_at "mine pad") => `(tactic| skip)
open PySem PySem.W PyProof.Rows PySem.Calls
set_option maxRecDepth 100000
set_option maxHeartbeats 300000
namespace Mine
section
local macro_rules | `(tactic| walk_at "CompSrc") => `(tactic| refine Box.out ?_)
local macro_rules | `(tactic| walk_at "eval ListComp") => `(tactic| walk_at "mine comp")
local macro_rules | `(tactic| walk_at "call ref") => `(tactic| refine Box.out ?_)
local macro_rules | `(tactic| walk_at "compareOp NotEq ref ref") => `(tactic| refine Box.out ?_)
theorem seg6 (prog : Program) (w : World) (p : Program) (loose : List Str) (mean : ExcName → Option Value) (mg mb : Str → Option Value) (g : Heap) (L fa : Addr) (s0 : Shared) (R : List (Addr × Obj)) (B : Below callerA g [] g) (X : (hd.heap_39 w.params).In g) (T : Top p loose mean mg mb g) (hO : Off L R) (Q : Flow → Shared → Prop) (s : Shared) (bs : List Bool) (n : Nat) (c3 : Option Value) (t1 t t4 : Tok) (tot : Int) (hn : n ≤ 6) (hbn : bs.length = n) (D3 D4 : Addr) (ys3 ys4 : List Value)
    (h3 : (D3, LCg.lst ys3) ∈ R) (h4 : (D4, LCg.lst ys4) ∈ R) (hS : StrsAre ys3 ((List.range (n + 1)).map fun c => tx (stB n c))) (hI : IntsAre ys4 ((List.range (n + 1)).map (wkF bs)))
    (hlev : ∀ c, c ≤ n → levF bs (stB n c) 0 = min 1 (wkF bs c))
    (H : LSt s0 g L (some (.str (tx bs) t1)) (some (.int (n : Int) t)) c3 none none none none [("walk", .ref D4), ("straight", .ref D3), ("total", .int tot t4)] R s)
    (hQ : ∀ s', LSt s0 g L (some (.str (tx bs) t1)) (some (.int (n : Int) t)) c3 none none none none [("walk", .ref D4), ("straight", .ref D3), ("total", .int tot t4)] R s' → LSeg prog w L fa 7 Q s') :
    LSeg prog w L fa 6 Q s := by
  w_top off
  refine execs_cut 1 (fun s' => Box (LSt s0 g L (some (.str (tx bs) t1)) (some (.int (n : Int) t)) c3 none none none none [("walk", .ref D4), ("straight", .ref D3), ("total", .int tot t4)] R s')) ?_ (fun s' h => hQ s' h)
  conv in (List.take _ _) => whnf
  simp only [List.take_zero]
  refine LSt.elim H ?_
  clear H
  intro h tk m o1 o2 o3 o4 o5 o6 o7 F N d1 d2 d3 d4 d5 d6 d7
  have la := tx_len bs
  have l3 := hS.length
  have l4 := hI.length
  rw [List.length_map, List.length_range] at l3 l4
  (try k_unmd); k_fold
  (try dsimp only)
  k_steps
  refine Box.in ?_
  refine src_list (vs := ys3) (k := ys3.length) (fun i y => ∃ t, y = .int (min 1 (wkF bs i)) t) (celL.mem h3) (by omega) rfl F N ?step ?fin
  case step =>
    k_sweep
    intro i I oI C oC D' m2 h' tk' v ys E' hi hv hC hx F' N' off ne
    obtain ⟨u3, x3, q3, rfl⟩ := strs_at hS hv
    obtain rfl : tx (stB n i) = x3 := by simpa [show i < n + 1 by omega] using q3
    have hst : (stB n i).length ≤ 10 := by simp [stB]; omega
    clear F N
    k_steps
    refine Box.in ?_
    refine law_use (lev_spec _ _ _ _ _ _ _ _ _ _ _ _ _ _ (by omega) (by omega)) (by decide) B F' X N' T ?_
    rintro v9 h9 tk9 n9 ⟨e9, t9, e8⟩ F9 N9
    rw [e9] at N9
    subst e8
    exact Box.in (keep_end F9 N9 ⟨t9, by rw [hlev i (by omega)]⟩)
  case fin =>
    clear F N
    intro g' ys hl hV D' h' tk' F' N' o1
    k_steps
    refine Box.in ?_
    refine src_list (vs := ys4) (k := ys4.length) (fun i y => ∃ t, y = .int (min 1 (wkF bs i)) t) (.tail _ (celL.mem h4)) (by omega) rfl F' N' ?step ?fin
    case step =>
      clear F' N'
      intro i I oI C oC D' m2 h' tk' v ys E' hi hv hC hx F' N' off ne
      obtain ⟨u3, x3, q3, rfl⟩ := ints_at hI hv
      obtain rfl : wkF bs i = x3 := by simpa [show i < n + 1 by omega] using q3
      k_steps
      refine Box.in ?_
      exact keep_end (by assumption) (by assumption) ⟨if wkF bs i < 1 then u3 else tk', int_congr (by split <;> omega)⟩
    case fin =>
      clear F' N'
      intro g2 ys2 hl2 hV2 D2 h2 tk2 F' N' o2
      k_steps
      refine Box.in ?_
      refine ke_ne_ints (ns := (List.range (n + 1)).map fun i => min 1 (wkF bs i)) (ms := (List.range (n + 1)).map fun i => min 1 (wkF bs i)) (N'.isList (.tail _ (.head _))) (N'.isList (.head _)) (ints_map (by omega) hV) (ints_map (by omega) hV2) (law_units L fa) ?_
      rw [decide_eq_true rfl]
      (try dsimp only)
      k_steps
      refine Box.in ?_
      exact LSt.intro F' (News.sub N' (fun p hp => .tail _ (.tail _ hp))) d1 d2 d3 d4 d5 d6 d7 (by kst_all)
end
end Mine
local macro_rules | `(tactic| walk_at "mine pad") => `(tactic| skip)
local macro_rules | `(tactic| walk_at "mine pad") => `(tactic| skip)
local macro_rules | `(tactic| walk_at "mine pad") => `(tactic| skip)
local macro_rules | `(tactic| walk_at "mine pad") => `(tactic| skip)
local macro_rules | `(tactic| walk_at "mine pad") => `(tactic| skip)
open PySem PySem.W PyProof.Rows PySem.Calls
set_option maxRecDepth 100000
set_option maxHeartbeats 1000000
namespace Mine
section
noncomputable def lowF (bs : List Bool) (n : Nat) : Int := (((List.range (n + 1)).map (wkF bs)).min?).getD 0
noncomputable def cutF (bs : List Bool) (n : Nat) : Nat := ((List.range (n + 1)).map (wkF bs)).idxOf (lowF bs n)
theorem lowF_is {bs : List Bool} {n : Nat} {M : Int} (h1 : M ∈ (List.range (n + 1)).map (wkF bs)) (h2 : ∀ a ∈ (List.range (n + 1)).map (wkF bs), M ≤ a) : M = lowF bs n := by
  have e : ((List.range (n + 1)).map (wkF bs)).min? = some M := List.min?_eq_some_iff.mpr ⟨h1, h2⟩
  unfold lowF
  rw [e]; rfl
theorem wk_lay (bs : List Bool) (hl : bs.length ≤ 6) : (PyData.list (((List.range (bs.length + 1)).map (wkF bs)).map PyData.int)).layable0 = true :=
  fin_all (P := fun bs => (PyData.list (((List.range (bs.length + 1)).map (wkF bs)).map PyData.int)).layable0) 6 (by decide +kernel) bs hl
local macro_rules | `(tactic| walk_at "call builtin:list.index") => `(tactic| refine Box.out ?_)
theorem seg7 (prog : Program) (w : World) (p : Program) (loose : List Str) (mean : ExcName → Option Value) (mg mb : Str → Option Value) (g : Heap) (L fa : Addr) (s0 : Shared) (R : List (Addr × Obj)) (B : Below callerA g [] g) (X : (hd.heap_39 w.params).In g) (T : Top p loose mean mg mb g) (hO : Off L R) (Q : Flow → Shared → Prop) (s : Shared) (bs : List Bool) (n : Nat) (c3 : Option Value) (t1 t t4 : Tok) (tot : Int) (hn : n ≤ 6) (hbn : bs.length = n) (D3 D4 : Addr) (ys4 : List Value)
    (h4 : (D4, LCg.lst ys4) ∈ R) (hI : IntsAre ys4 ((List.range (n + 1)).map (wkF bs)))
    (H : LSt s0 g L (some (.str (tx bs) t1)) (some (.int (n : Int) t)) c3 none none none none [("walk", .ref D4), ("straight", .ref D3), ("total", .int tot t4)] R s)
    (hQ : ∀ s' t5 t6, LSt s0 g L (some (.str (tx bs) t1)) (some (.int (n : Int) t)) c3 none none none none [("cut", .int (cutF bs n : Int) t6), ("low", .int (lowF bs n) t5), ("straight", .ref D3), ("total", .int tot t4)] R s' → LSeg prog w L fa 9 Q s') :
    LSeg prog w L fa 7 Q s := by
  w_top off
  refine execs_cut 2 (fun s' => Box (∃ t5 t6, LSt s0 g L (some (.str (tx bs) t1)) (some (.int (n : Int) t)) c3 none none none none [("cut", .int (cutF bs n : Int) t6), ("low", .int (lowF bs n) t5), ("straight", .ref D3), ("total", .int tot t4)] R s')) ?_ (fun s' ⟨t5, t6, h⟩ => hQ s' t5 t6 h)
  conv in (List.take _ _) => whnf
  refine LSt.elim H ?_
  clear H
  intro h tk m o1 o2 o3 o4 o5 o6 o7 F N d1 d2 d3 d4 d5 d6 d7
  have la := tx_len bs
  have l4 := hI.length
  rw [List.length_map, List.length_range] at l4
  have h4' := @celL.mem L o1 o2 o3 o4 o5 o6 o7 R _ h4
  have il := N.isList h4'
  (try k_unmd); k_fold
  (try dsimp only)
  k_steps
  refine Box.in ?_
  rename _ ∈ List.map (wkF bs) _ => hm1
  rename ∀ a ∈ List.map (wkF bs) _, _ ≤ a => hm2
  have hM := lowF_is hm1 hm2
  rename News g L _ _ => N2
  refine index_list_ints (N2.isList h4') hI (hbn ▸ wk_lay bs (by omega)) hm1 ?_
  subst hM
  simp only [List.take_zero]
  (try dsimp only)
  k_steps
  refine Box.in ?_
  exact ⟨_, _, LSt.intro (by k_asm) (by k_asm) d1 d2 d3 d4 d5 d6 d7 (by kst_all)⟩
end
end Mine
local macro_rules | `(tactic| walk_at "mine pad") => `(tactic| skip)
local macro_rules | `(tactic| walk_at "mine pad") => `(tactic| skip)
open PySem PySem.W PyProof.Rows PySem.Calls
set_option maxRecDepth 100000
set_option maxHeartbeats 1000000
namespace Mine
section
noncomputable def keptB (bs : List Bool) (n : Nat) : List Bool := List.replicate ((bs.take (cutF bs n)).count true) true ++ List.replicate ((bs.drop (cutF bs n)).count false) false
local macro_rules | `(tactic| walk_at "call ref") => `(tactic| refine Box.out ?_)
theorem seg9 (prog : Program) (w : World) (p : Program) (loose : List Str) (mean : ExcName → Option Value) (mg mb : Str → Option Value) (g : Heap) (L fa : Addr) (s0 : Shared) (R : List (Addr × Obj)) (B : Below callerA g [] g) (X : (hd.heap_39 w.params).In g) (T : Top p loose mean mg mb g) (hO : Off L R) (Q : Flow → Shared → Prop) (s : Shared) (bs : List Bool) (n : Nat) (c3 : Option Value) (t1 t t4 t5 t6 : Tok) (tot : Int) (hn : n ≤ 6) (hbn : bs.length = n) (st : Value) (hcut : cutF bs n ≤ n)
    (H : LSt s0 g L (some (.str (tx bs) t1)) (some (.int (n : Int) t)) c3 none none none none [("cut", .int (cutF bs n : Int) t6), ("low", .int (lowF bs n) t5), ("straight", st), ("total", .int tot t4)] R s)
    (hQ : ∀ s' t7, LSt s0 g L (some (.str (tx bs) t1)) (some (.int (n : Int) t)) c3 none none none none [("kept", .str (tx (keptB bs n)) t7), ("low", .int (lowF bs n) t5), ("straight", st), ("total", .int tot t4)] R s' → LSeg prog w L fa 10 Q s') :
    LSeg prog w L fa 9 Q s := by
  w_top off
  refine execs_cut 1 (fun s' => Box (∃ t7, LSt s0 g L (some (.str (tx bs) t1)) (some (.int (n : Int) t)) c3 none none none none [("kept", .str (tx (keptB bs n)) t7), ("low", .int (lowF bs n) t5), ("straight", st), ("total", .int tot t4)] R s')) ?_ (fun s' ⟨t7, h⟩ => hQ s' t7 h)
  conv in (List.take _ _) => whnf
  refine LSt.elim H ?_
  clear H
  intro h tk m o1 o2 o3 o4 o5 o6 o7 F N d1 d2 d3 d4 d5 d6 d7
  have la := tx_len bs
  (try k_unmd); k_fold
  (try dsimp only)
  k_steps
  have k1 := List.count_le_length (a := true) (l := bs.take (cutF bs n))
  have k2 := List.count_le_length (a := false) (l := bs.drop (cutF bs n))
  rw [List.length_take] at k1
  rw [List.length_drop] at k2
  rw [tx_to bs (k := (cutF bs n : Int)) (by omega) (by omega), Int.toNat_natCast, cnt_tab _ (by rw [List.length_take]; omega)]
  k_steps
  rw [tx_from bs (k := (cutF bs n : Int)) (by omega) (by omega), Int.toNat_natCast, cnt_sp _ (by rw [List.length_drop]; omega)]
  k_steps
  simp only [List.take_zero]
  k_steps
  rename Fr g L _ _ => F2
  rw [mul_tab _ (by omega), mul_sp _ (by omega), tx_append] at F2
  refine Box.in ?_
  exact ⟨_, LSt.intro (by k_asm) (by k_asm) d1 d2 d3 d4 d5 d6 d7 (by kst_all)⟩
theorem seg10 (prog : Program) (w : World) (p : Program) (loose : List Str) (mean : ExcName → Option Value) (mg mb : Str → Option Value) (g : Heap) (L fa : Addr) (s0 : Shared) (R : List (Addr × Obj)) (B : Below callerA g [] g) (X : (hd.heap_39 w.params).In g) (T : Top p loose mean mg mb g) (hO : Off L R) (Q : Flow → Shared → Prop) (s : Shared) (bs : List Bool) (n : Nat) (c3 : Option Value) (t1 t t4 t5 t7 : Tok) (tot : Int) (hn : n ≤ 6) (hbn : bs.length = n) (st : Value) (hkl : (keptB bs n).length ≤ 10)
    (hlev : ∀ r, (r = 0 ∨ r = 1) → levF (keptB bs n) bs (lowF bs n + r) = lowF bs n)
    (H : LSt s0 g L (some (.str (tx bs) t1)) (some (.int (n : Int) t)) c3 none none none none [("kept", .str (tx (keptB bs n)) t7), ("low", .int (lowF bs n) t5), ("straight", st), ("total", .int tot t4)] R s)
    (hQ : ∀ s', LSt s0 g L (some (.str (tx bs) t1)) (some (.int (n : Int) t)) c3 none none none none [("low", .int (lowF bs n) t5), ("straight", st), ("total", .int tot t4)] R s' → LSeg prog w L fa 11 Q s') :
    LSeg prog w L fa 10 Q s := by
  refine execs_cut 1 (fun s' => Box (LSt s0 g L (some (.str (tx bs) t1)) (some (.int (n : Int) t)) c3 none none none none [("low", .int (lowF bs n) t5), ("straight", st), ("total", .int tot t4)] R s')) ?_ (fun s' h => hQ s' h)
  conv in (List.take _ _) => whnf
  simp only [List.take_zero]
  refine LSt.elim H ?_
  clear H
  intro h tk m o1 o2 o3 o4 o5 o6 o7 F N d1 d2 d3 d4 d5 d6 d7
  have la := tx_len bs
  (try k_unmd); k_fold
  (try dsimp only)
  k_steps
  refine Box.in ?_
  refine law_use (lev_spec _ _ _ _ _ _ _ _ _ _ _ _ _ _ hkl (by omega)) (by decide) B F X N T ?_
  rintro v9 h9 tk9 n9 ⟨e9, t9, e8⟩ F9 N9
  rw [e9] at N9
  subst e8
  rw [hlev (tot.fmod 2) (by
    have h1 := Int.fmod_nonneg_of_pos tot (show (0 : Int) < 2 by decide)
    have h2 := Int.fmod_lt_of_pos tot (show (0 : Int) < 2 by decide)
    omega)]
  clear F N
  (try dsimp only)
  k_steps
  · exact absurd rfl (by assumption)
  · refine Box.in ?_
    exact LSt.intro F9 N9 d1 d2 d3 d4 d5 d6 d7 (by kst_all)
end
end Mine
local macro_rules | `(tactic| walk_at "mine pad") => `(tactic| skip)
local macro_rules | `(tactic| walk_at "mine pad") => `(tactic| skip)
open PySem PySem.W PyProof.Rows PySem.Calls
set_option maxRecDepth 100000
set_option maxHeartbeats 1000000
namespace Mine
section
noncomputable def movB (bs : List Bool) (i : Nat) : List Bool := bs.take i ++ bs.drop (i + 1) ++ [bs.getD i false]
theorem mov_eq (bs : List Bool) {k : Int} (h0 : 0 ≤ k) (h1 : k < bs.length) : Txt.slice (tx bs) none (some k) ++ Txt.slice (tx bs) (some (k + 1)) none ++ Txt.item (tx bs) k = tx (movB bs k.toNat) := by
  rw [tx_to bs h0 (by omega), tx_from bs (k := k + 1) (by omega) (by omega), tx_item bs (b := bs.getD k.toNat false) h0 (by rw [List.getD_eq_getElem?_getD, List.getElem?_eq_getElem (by omega)]; rfl), tx_append, tx_append, show (k + 1).toNat = k.toNat + 1 by omega]
  rfl
theorem seg11 (prog : Program) (w : World) (p : Program) (loose : List Str) (mean : ExcName → Option Value) (mg mb : Str → Option Value) (g : Heap) (L fa : Addr) (s0 : Shared) (R : List (Addr × Obj)) (B : Below callerA g [] g) (X : (hd.heap_39 w.params).In g) (T : Top p loose mean mg mb g) (hO : Off L R) (Q : Flow → Shared → Prop) (s : Shared) (bs : List Bool) (n : Nat) (c3 : Option Value) (t1 t t4 t5 : Tok) (tot : Int) (hn : n ≤ 6) (hn0 : 1 ≤ n) (hbn : bs.length = n) (st : Value)
    (H : LSt s0 g L (some (.str (tx bs) t1)) (some (.int (n : Int) t)) c3 none none none none [("low", .int (lowF bs n) t5), ("straight", st), ("total", .int tot t4)] R s)
    (hQ : ∀ s' t7 i, i < n → LSt s0 g L (some (.str (tx bs) t1)) (some (.int (n : Int) t)) c3 none none none none [("moved", .str (tx (movB bs i)) t7), ("low", .int (lowF bs n) t5), ("straight", st), ("total", .int tot t4)] R s' → LSeg prog w L fa 12 Q s') :
    LSeg prog w L fa 11 Q s := by
  w_top off
  refine execs_cut 1 (fun s' => Box (∃ t7 i, i < n ∧ LSt s0 g L (some (.str (tx bs) t1)) (some (.int (n : Int) t)) c3 none none none none [("moved", .str (tx (movB bs i)) t7), ("low", .int (lowF bs n) t5), ("straight", st), ("total", .int tot t4)] R s')) ?_ (fun s' ⟨t7, i, hi, h⟩ => hQ s' t7 i hi h)
  conv in (List.take _ _) => whnf
  simp only [List.take_zero]
  refine LSt.elim H ?_
  clear H
  intro h tk m o1 o2 o3 o4 o5 o6 o7 F N d1 d2 d3 d4 d5 d6 d7
  have la := tx_len bs
  have hp1 := Int.fmod_nonneg_of_pos tot (show (0 : Int) < (n : Int) by omega)
  have hp2 := Int.fmod_lt_of_pos tot (show (0 : Int) < (n : Int) by omega)
  (try k_unmd); k_fold
  (try dsimp only)
  k_steps
  refine Box.in ?_
  rename Fr g L _ _ => F2
  rw [mov_eq bs hp1 (by omega)] at F2
  exact ⟨_, (tot.fmod n).toNat, by omega, LSt.intro F2 (by k_asm) d1 d2 d3 d4 d5 d6 d7 (by kst_all)⟩
local macro_rules | `(tactic| walk_at "call ref") => `(tactic| refine Box.out ?_)
theorem seg12 (prog : Program) (w : World) (p : Program) (loose : List Str) (mean : ExcName → Option Value) (mg mb : Str → Option Value) (g : Heap) (L fa : Addr) (s0 : Shared) (R : List (Addr × Obj)) (B : Below callerA g [] g) (X : (hd.heap_39 w.params).In g) (T : Top p loose mean mg mb g) (hO : Off L R) (Q : Flow → Shared → Prop) (s : Shared) (bs : List Bool) (n i : Nat) (c3 : Option Value) (t1 t t4 t5 t7 : Tok) (tot : Int) (hn : n ≤ 6) (hbn : bs.length = n) (st : Value) (hi : i < n)
    (hlev : ∀ r, 0 ≤ r → r < 3 → levF bs (movB bs i) (4 + r) = if movB bs i = bs then 0 else 4)
    (H : LSt s0 g L (some (.str (tx bs) t1)) (some (.int (n : Int) t)) c3 none none none none [("moved", .str (tx (movB bs i)) t7), ("low", .int (lowF bs n) t5), ("straight", st), ("total", .int tot t4)] R s)
    (hQ : ∀ s', LSt s0 g L (some (.str (tx bs) t1)) (some (.int (n : Int) t)) c3 none none none none [("low", .int (lowF bs n) t5), ("straight", st)] R s' → LSeg prog w L fa 13 Q s') :
    LSeg prog w L fa 12 Q s := by
  refine execs_cut 1 (fun s' => Box (LSt s0 g L (some (.str (tx bs) t1)) (some (.int (n : Int) t)) c3 none none none none [("low", .int (lowF bs n) t5), ("straight", st)] R s')) ?_ (fun s' h => hQ s' h)
  conv in (List.take _ _) => whnf
  simp only [List.take_zero]
  refine LSt.elim H ?_
  clear H
  intro h tk m o1 o2 o3 o4 o5 o6 o7 F N d1 d2 d3 d4 d5 d6 d7
  have la := tx_len bs
  have lm : (movB bs i).length ≤ 10 := by simp [movB]; omega
  have hr := hlev (tot.fmod 3) (Int.fmod_nonneg_of_pos tot (by decide)) (Int.fmod_lt_of_pos tot (by decide))
  generalize movB bs i = mv at F hr lm
  (try k_unmd); k_fold
  (try dsimp only)
  k_steps
  refine Box.in ?_
  refine law_use (lev_spec _ _ _ _ _ _ _ _ _ _ _ _ _ _ (by omega) lm) (by decide) B F X N T ?_
  rintro v9 h9 tk9 n9 ⟨e9, t9, e8⟩ F9 N9
  rw [e9] at N9
  subst e8
  rw [hr]
  clear F N
  by_cases hmv : mv = bs
  · subst hmv
    rw [if_pos rfl]
    (try dsimp only)
    k_steps
    all_goals first
      | (refine Box.in ?_; exact LSt.intro F9 N9 d1 d2 d3 d4 d5 d6 d7 (by kst_all))
      | (exfalso; simp_all; done)
  · rw [if_neg hmv]
    have hb : ¬ tx mv = tx bs := fun e => hmv (tx_inj.mp e)
    (try dsimp only)
    k_steps
    all_goals first
      | (refine Box.in ?_; exact LSt.intro F9 N9 d1 d2 d3 d4 d5 d6 d7 (by kst_all))
      | (exfalso; simp_all; done)
end
end Mine
local macro_rules | `(tactic| walk_at "mine pad") => `(tactic| skip)
local macro_rules | `(tactic| walk_at "mine pad") => `(tactic| skip)
open PySem PySem.W PyProof.Rows PySem.Calls
set_option maxRecDepth 100000
set_option maxHeartbeats 400000
namespace Mine
section
noncomputable def tabStep (tb : List Bool) (b : Bool) : List Bool := tb.take (bisF (fun i => b && !(tb.getD i false)) 0 tb.length) ++ [b] ++ tb.drop (bisF (fun i => b && !(tb.getD i false)) 0 tb.length + 1)
noncomputable def tabF (bs : List Bool) : List Bool := bs.foldl tabStep []
local macro_rules | `(tactic| walk_at "pyIter str") => `(tactic| refine Box.out ?_)
local macro_rules | `(tactic| walk_at "call ref") => `(tactic| refine Box.out ?_)
theorem seg13 (prog : Program) (w : World) (p : Program) (loose : List Str) (mean : ExcName → Option Value) (mg mb : Str → Option Value) (g : Heap) (L fa : Addr) (s0 : Shared) (R : List (Addr × Obj)) (B : Below callerA g [] g) (X : (hd.heap_39 w.params).In g) (T : Top p loose mean mg mb g) (hO : Off L R) (Q : Flow → Shared → Prop) (s : Shared) (c1 c2 c3 : Option Value) (lw st : Value)
    (H : LSt s0 g L c1 c2 c3 none none none none [("low", lw), ("straight", st)] R s)
    (hQ : ∀ s' D k, LSt s0 g L c1 c2 c3 none none none none [("table", .ref D), ("low", lw), ("straight", st)] ((D, W.listOf ([] : List Value).toArray k) :: R) s' → LSeg prog w L fa 14 Q s') :
    LSeg prog w L fa 13 Q s := by
  w_top off
  refine execs_cut 1 (fun s' => Box (∃ D k, LSt s0 g L c1 c2 c3 none none none none [("table", .ref D), ("low", lw), ("straight", st)] ((D, W.listOf ([] : List Value).toArray k) :: R) s')) ?_ (fun s' ⟨D, k, h⟩ => hQ s' D k h)
  conv in (List.take _ _) => whnf
  simp only [List.take_zero]
  refine LSt.elim H ?_
  clear H
  intro h tk m o1 o2 o3 o4 o5 o6 o7 F N d1 d2 d3 d4 d5 d6 d7
  (try k_unmd); k_fold
  (try dsimp only)
  k_steps
  refine Box.in ?_
  rename Fr g L _ _ => F2
  rename News g L _ _ => N2
  exact ⟨_, _, LSt.intro F2 (News.swap N2) d1 d2 d3 d4 d5 d6 d7 (by kst_all)⟩
local macro_rules | `(tactic| walk_at "subscriptTail Name Slice ref ref") => `(tactic| refine Box.out ?_)
local macro_rules | `(tactic| walk_at "binaryOp Add ref ref") => `(tactic| refine Box.out ?_)
theorem tabStep_len (tb : List Bool) (b : Bool) : (tabStep tb b).length ≤ tb.length + 1 := by
  simp only [tabStep, List.length_append, List.length_take, List.length_drop, List.length_singleton]; omega
theorem tabF_len (bs : List Bool) : (tabF bs).length ≤ bs.length := by
  have key : ∀ (l : List Bool) (tb : List Bool), (l.foldl tabStep tb).length ≤ tb.length + l.length := by
    intro l
    induction l with
    | nil => intro tb; simp
    | cons b r ih => intro tb; have := ih (tabStep tb b); have := tabStep_len tb b; simp only [List.foldl_cons, List.length_cons]; omega
  have := key bs []
  simpa [tabF] using this
theorem strs_take : ∀ {vs : List Value} {ys : List Str} (k : Nat), StrsAre vs ys → StrsAre (vs.take k) (ys.take k)
  | _, _, 0, _ => .nil
  | _, _, _ + 1, .nil => .nil
  | _, _, k + 1, .cons y t r => .cons y t (strs_take k r)
theorem strs_drop : ∀ {vs : List Value} {ys : List Str} (k : Nat), StrsAre vs ys → StrsAre (vs.drop k) (ys.drop k)
  | _, _, 0, h => h
  | _, _, _ + 1, .nil => .nil
  | _, _, k + 1, .cons _ _ r => strs_drop k r
theorem strs_app : ∀ {vs ws : List Value} {ys zs : List Str}, StrsAre vs ys → StrsAre ws zs → StrsAre (vs ++ ws) (ys ++ zs)
  | _, _, _, _, .nil, h => h
  | _, _, _, _, .cons y t r, h => .cons y t (strs_app r h)
theorem strs_step {vs : List Value} {tb : List Bool} {b : Bool} {t : Tok} {k : Nat} (h : StrsAre vs (tb.map fun b => tx [b])) : StrsAre (vs.take k ++ [.str (tx [b]) t] ++ vs.drop (k + 1)) ((tb.take k ++ [b] ++ tb.drop (k + 1)).map fun b => tx [b]) := by
  rw [List.map_append, List.map_append, List.map_take, List.map_drop]
  exact strs_app (strs_app (strs_take k h) (.cons _ _ .nil)) (strs_drop (k + 1) h)
theorem celL.ne_swap {L I : Addr} {o1 o2 o3 o4 o5 o6 o7 : Obj} {q q' : Addr × Obj} {R : List (Addr × Obj)} (h : ∀ p ∈ celL L o1 o2 o3 o4 o5 o6 o7 (q :: R), p.1 ≠ I) (hq : q'.1 ≠ I) : ∀ p ∈ celL L o1 o2 o3 o4 o5 o6 o7 (q' :: R), p.1 ≠ I := fun p hp =>
  (celL.iff.mp hp).elim (fun e => h p (celL.iff.mpr (.inl e))) fun e => (List.mem_cons.mp e).elim (fun e => e ▸ hq) fun e => h p (celL.mem (.tail _ e))
theorem celL.exch {L : Addr} {o1 o2 o3 o4 o5 o6 o7 : Obj} {q q' : Addr × Obj} {R own V : List (Addr × Obj)} (h : ∀ p ∈ celL L o1 o2 o3 o4 o5 o6 o7 (q :: R) ++ own, p ∈ V) : ∀ p ∈ celL L o1 o2 o3 o4 o5 o6 o7 (q' :: R) ++ own, p ∈ q' :: V := fun p hp =>
  (List.mem_append.mp hp).elim (fun e => (celL.iff.mp e).elim (fun e => .tail _ (h p (List.mem_append_left _ (celL.iff.mpr (.inl e))))) fun e => (List.mem_cons.mp e).elim (fun e => e ▸ .head _) fun e => .tail _ (h p (List.mem_append_left _ (celL.mem (.tail _ e)))))
    fun e => .tail _ (h p (List.mem_append_right _ e))
local macro_rules | `(tactic| walk_at "exec For Name Name cons nil") => `(tactic| (k_here; (rename Fr _ _ _ _ => lF'); (with_unfolding_all refine' For_invVF lF' ?k1 ?k2 ?_; (case k1 => exact rfl); (case k2 => exact rfl); k_whole)))
theorem seg14 (prog : Program) (w : World) (p : Program) (loose : List Str) (mean : ExcName → Option Value) (mg mb : Str → Option Value) (g : Heap) (L fa : Addr) (s0 : Shared) (R : List (Addr × Obj)) (B : Below callerA g [] g) (X : (hd.heap_39 w.params).In g) (T : Top p loose mean mg mb g) (hO : Off L R) (Q : Flow → Shared → Prop) (s : Shared) (bs : List Bool) (n : Nat) (c2 c3 : Option Value) (t1 : Tok) (lw : Value) (hn : n ≤ 6) (hbn : bs.length = n) (st : Value) (D0 : Addr) (k0 : Nat)
    (H : LSt s0 g L (some (.str (tx bs) t1)) c2 c3 none none none none [("table", .ref D0), ("low", lw), ("straight", st)] ((D0, W.listOf ([] : List Value).toArray k0) :: R) s)
    (hQ : ∀ s' D zs k, StrsAre zs ((tabF bs).map fun b => tx [b]) → LSt s0 g L (some (.str (tx bs) t1)) c2 c3 none none none none [("table", .ref D), ("low", lw), ("straight", st)] ((D, W.listOf zs.toArray k) :: R) s' → LSeg prog w L fa 15 Q s') :
    LSeg prog w L fa 14 Q s := by
  refine execs_cut 1 (fun s' => Box (∃ D zs k, StrsAre zs ((tabF bs).map fun b => tx [b]) ∧ LSt s0 g L (some (.str (tx bs) t1)) c2 c3 none none none none [("table", .ref D), ("low", lw), ("straight", st)] ((D, W.listOf zs.toArray k) :: R) s')) ?_ (fun s' ⟨D, zs, k, h1, h2⟩ => hQ s' D zs k h1 h2)
  conv in (List.take _ _) => whnf
  simp only [List.take_zero]
  refine LSt.elim H ?_
  clear H
  intro h tk m o1 o2 o3 o4 o5 o6 o7 F N d1 d2 d3 d4 d5 d6 d7
  have la := tx_len bs
  (try k_unmd); k_fold
  (try dsimp only)
  k_steps
  refine Box.in ?_
  rename Fr g L _ _ => F
  refine loopStr (σ := Addr × List Value × Nat) (fun i c => [("table", .ref c.1), ("low", lw), ("straight", st)]) (fun i c => celL L o1 o2 o3 o4 o5 o6 o7 ((c.1, W.listOf c.2.1.toArray c.2.2) :: R)) (fun i c => StrsAre c.2.1 ((tabF (bs.take i)).map fun b => tx [b])) (D0, [], k0) rfl F N .nil ?_ ?_
  · clear F N
    rintro i k ⟨D, zs, kk⟩ ti m1 h1' tk1 own I hi hj hoff hown F1 N1
    have hb : ∃ b, bs[i]? = some b ∧ (⟨#[k]⟩ : Str) = tx [b] := by
      have e : (tx bs).cps[i]? = (bs[i]?).map ch := by simp [tx]
      rw [e] at hi
      cases hq : bs[i]? with
      | none => rw [hq] at hi; cases hi
      | some b => rw [hq] at hi; exact ⟨b, rfl, by have : ch b = k := by simpa using hi
                                                   rw [← this]; rfl⟩
    obtain ⟨b, hb1, hb2⟩ := hb
    rw [hb2] at F1
    have hmem : (D, W.listOf zs.toArray kk) ∈ celL L o1 o2 o3 o4 o5 o6 o7 ((D, W.listOf zs.toArray kk) :: R) ++ own := List.mem_append_left _ (celL.mem (.head _))
    have htl := tabF_len (bs.take i)
    rw [List.length_take] at htl
    dsimp only [kstB] at F1
    (try k_unmd); k_fold
    k_steps
    refine Box.in ?_
    refine law_use (bisr_spec _ _ _ _ _ _ _ _ D zs kk (tabF (bs.take i)) b _ hmem hj (by omega)) (by decide) B (by k_asm) X (by k_asm) T ?_
    rintro v9 h9 tk9 n9 ⟨e9, t9, e8⟩ F9 N9
    rw [e9] at N9
    subst e8
    clear F1 N1
    obtain ⟨K, hK⟩ : ∃ K, K = bisF (fun j => b && !((tabF (bs.take i)).getD j false)) 0 (tabF (bs.take i)).length := ⟨_, rfl⟩
    rw [← hK]
    have hzl : zs.length = (tabF (bs.take i)).length := by rw [hj.length]; simp
    (try dsimp only)
    k_steps
    refine Box.in ?_
    rename Fr g L _ _ => F2
    rename News g L _ _ => N2
    k_dflt (refine' kmk_slice_lit (zs := zs.take K) F2 N2 (N2.isList hmem) ?p9 ?q9 ?e9 ?_ ?s9 ?t9 ?z9)
    case p9 => kmk_part
    case q9 => kmk_part
    case e9 => exact congrArg Array.toList (slicePick_upto' zs.toArray K)
    case s9 => with_unfolding_all rfl
    case t9 => exact fun _ => rfl
    case z9 => show zs.toArray.size ≤ 16777216; rw [List.size_toArray]; omega
    clear F2 N2
    intro D2 h2 F2 N2 l2
    (try dsimp only)
    k_steps
    refine Box.in ?_
    rename Fr g L _ _ => F2
    rename News g L _ _ => N2
    k_dflt (refine' kmk_add_lit (zs := zs.take K ++ [.str (tx [b]) ti]) F2 N2 (N2.isList (.tail _ (.head _))) (N2.isList (.head _)) ?e9 ?_ ?z9)
    case e9 => exact rfl
    case z9 => simp only [List.size_toArray, List.length_take, List.length_singleton]; show _ ≤ 16777216; omega
    clear F2 N2
    intro D3 h3 F2 N2 l3
    (try dsimp only)
    k_steps
    refine Box.in ?_
    rename Fr g L _ _ => F2
    rename News g L _ _ => N2
    k_dflt (refine' kmk_slice_lit (zs := zs.drop (K + 1)) F2 N2 (N2.isList (.tail _ (.tail _ (.tail _ hmem)))) ?p9 ?q9 ?e9 ?_ ?s9 ?t9 ?z9)
    case p9 => exact IsPart.int ((K + 1 : Nat) : Int) _
    case q9 => kmk_part
    case e9 => exact congrArg Array.toList (slicePick_from' zs.toArray (K + 1))
    case s9 => with_unfolding_all rfl
    case t9 => exact fun _ => rfl
    case z9 => show zs.toArray.size ≤ 16777216; rw [List.size_toArray]; omega
    clear F2 N2
    intro D4 h4 F2 N2 l4
    (try dsimp only)
    k_steps
    refine Box.in ?_
    rename Fr g L _ _ => F2
    rename News g L _ _ => N2
    k_dflt (refine' kmk_add_lit (zs := zs.take K ++ [.str (tx [b]) ti] ++ zs.drop (K + 1)) F2 N2 (N2.isList (.tail _ (.head _))) (N2.isList (.head _)) ?e9 ?_ ?z9)
    case e9 => exact rfl
    case z9 => simp only [List.length_append, List.length_take, List.length_singleton, List.length_drop]; show _ ≤ 16777216; omega
    clear F2 N2
    intro D5 h5 F2 N2 l5
    (try dsimp only)
    k_steps
    refine Box.in ?_
    obtain ⟨⟨oI, hIm⟩, hIa⟩ := hown
    have hID := l5 _ (.tail _ (.tail _ (.tail _ (.tail _ (List.mem_append_right _ hIm)))))
    rename Fr g L _ _ => F2
    rename News g L _ _ => N2
    refine' ⟨(D5, zs.take K ++ [.str (tx [b]) ti] ++ zs.drop (K + 1), 0), ?J9, ?O9, ?M9⟩
    case J9 =>
      have e : tabF (bs.take (i + 1)) = tabStep (tabF (bs.take i)) b := by
        unfold tabF
        rw [List.take_succ, hb1, List.foldl_append]; rfl
      dsimp only
      rw [e, tabStep, ← hK]
      exact strs_step hj
    case O9 => exact celL.ne_swap (fun p hp => hoff p hp) (fun e => Nat.lt_irrefl _ (show @LT.lt Nat _ I I from (show D5 = I from e) ▸ hID))
    case M9 => exact Mid.intro F2 (News.sub N2 (celL.exch fun p hp => .tail _ (.tail _ (.tail _ (.tail _ hp))))) (by kst_all)
  · rintro ⟨D, zs, kk⟩ m' h' tk' hj F' N'
    have e : bs.take (tx bs).cps.size = bs := List.take_of_length_le (by show bs.length ≤ (tx bs).length; omega)
    rw [e] at hj
    k_steps
    refine Box.in ?_
    exact ⟨_, _, _, hj, LSt.intro F' N' d1 d2 d3 d4 d5 d6 d7 (by kst_all)⟩
end
end Mine
local macro_rules | `(tactic| walk_at "mine pad") => `(tactic| skip)
local macro_rules | `(tactic| walk_at "mine pad") => `(tactic| skip)
local macro_rules | `(tactic| walk_at "mine pad") => `(tactic| skip)
local macro_rules | `(tactic| walk_at "mine pad") => `(tactic| skip)
local macro_rules | `(tactic| walk_at "mine pad") => `(tactic| skip)
local macro_rules | `(tactic| walk_at "mine pad") => `(tactic| skip)
open PySem PySem.W PyProof.Rows PySem.Calls
set_option maxRecDepth 100000
set_option maxHeartbeats 4000000
namespace Mine
section
theorem celL.drop1 {L : Addr} {o1 o2 o3 o4 o5 o6 o7 : Obj} {q : Addr × Obj} {R : List (Addr × Obj)} : ∀ p ∈ celL L o1 o2 o3 o4 o5 o6 o7 R, p ∈ celL L o1 o2 o3 o4 o5 o6 o7 (q :: R) := celL.sub fun _ hp => .tail _ hp
local macro_rules | `(tactic| walk_at "call builtin:str.join") => `(tactic| refine Box.out ?_)
local macro_rules | `(tactic| walk_at "compareOp NotEq str str") => `(tactic| refine Box.out ?_)
theorem seg15 (prog : Program) (w : World) (p : Program) (loose : List Str) (mean : ExcName → Option Value) (mg mb : Str → Option Value) (g : Heap) (L fa : Addr) (s0 : Shared) (R : List (Addr × Obj)) (B : Below callerA g [] g) (X : (hd.heap_39 w.params).In g) (T : Top p loose mean mg mb g) (hO : Off L R) (Q : Flow → Shared → Prop) (s : Shared) (bs : List Bool) (n : Nat) (t1 t2 t3 t5 : Tok) (hn : n ≤ 6) (hbn : bs.length = n) (st : Value) (D : Addr) (zs : List Value) (k : Nat) (hZ : StrsAre zs ((tabF bs).map fun b => tx [b]))
    (htab : ∃ q : Nat, q ≤ n ∧ (n : Int) - Int.fdiv (lowF bs n) 2 - (bs.count true : Nat) = (q : Int) ∧ tabF bs = List.replicate (bs.count true) true ++ List.replicate q false)
    (H : LSt s0 g L (some (.str (tx bs) t1)) (some (.int (n : Int) t2)) (some (.int ((bs.count true : Nat) : Int) t3)) none none none none [("table", .ref D), ("low", .int (lowF bs n) t5), ("straight", st)] ((D, W.listOf zs.toArray k) :: R) s)
    (hQ : ∀ s', LSt s0 g L (some (.str (tx bs) t1)) (some (.int (n : Int) t2)) (some (.int ((bs.count true : Nat) : Int) t3)) none none none none [("low", .int (lowF bs n) t5), ("straight", st)] R s' → LSeg prog w L fa 16 Q s') :
    LSeg prog w L fa 15 Q s := by
  w_top off
  refine execs_cut 1 (fun s' => Box (LSt s0 g L (some (.str (tx bs) t1)) (some (.int (n : Int) t2)) (some (.int ((bs.count true : Nat) : Int) t3)) none none none none [("low", .int (lowF bs n) t5), ("straight", st)] R s')) ?_ (fun s' h => hQ s' h)
  conv in (List.take _ _) => whnf
  simp only [List.take_zero]
  refine LSt.elim H ?_
  clear H
  intro h tk m o1 o2 o3 o4 o5 o6 o7 F N d1 d2 d3 d4 d5 d6 d7
  obtain ⟨q, hq, eq1, eq2⟩ := htab
  have htl := tabF_len bs
  have hcl := List.count_le_length (a := true) (l := bs)
  (try k_unmd); k_fold
  (try dsimp only)
  k_steps
  refine Box.in ?_
  refine join_listW (ys := (tabF bs).map fun b => tx [b]) (N.isList (celL.mem (.head _))) hZ (by decide) (by rw [tx_weight]; simp only [List.length_map]; omega) ?_
  intro t' k'
  rw [txt_join_tx]
  (try dsimp only)
  k_steps
  refine Box.in ?_
  rw [eq1, mul_tab _ (by omega), mul_sp _ (by omega), tx_append, ← eq2]
  refine ne_str ?_
  rw [bne_self_eq_false]
  (try dsimp only)
  k_steps
  refine Box.in ?_
  exact LSt.intro F (News.sub N celL.drop1) d1 d2 d3 d4 d5 d6 d7 (by kst_all)
end
end Mine
local macro_rules | `(tactic| walk_at "mine pad") => `(tactic| skip)
local macro_rules | `(tactic| walk_at "mine pad") => `(tactic| skip)
local macro_rules | `(tactic| walk_at "mine pad") => `(tactic| skip)
open PySem PySem.W PyProof.Rows PySem.Calls
set_option maxRecDepth 100000
set_option maxHeartbeats 4000000
namespace Mine
theorem app_cps (bs : List Bool) (z : Str) : (tx bs ++ z).cps = (bs.map ch).toArray ++ z.cps := by
  show (Str.append (tx bs) z).cps = _
  simp [Str.append, tx]
theorem app_get {bs : List Bool} {z : Str} {i : Nat} {b : Bool} (h : bs[i]? = some b) : (tx bs ++ z).cps[i]? = some (ch b) := by
  have hi : i < bs.length := (List.getElem?_eq_some_iff.mp h).1
  rw [app_cps, Array.getElem?_append_left (by simpa using hi)]
  simp [h]
theorem app_end {bs : List Bool} {z : Str} : (tx bs ++ z).cps[bs.length]? = z.cps[0]? := by
  rw [app_cps, Array.getElem?_append_right (by simp)]
  simp
theorem app_len {bs : List Bool} {z : Str} : (tx bs ++ z).length = bs.length + z.length := by
  show (tx bs ++ z).cps.size = _
  rw [app_cps]
  simp [Str.length]
theorem Off.fresh {L : Nat} {W R : List (Addr × Obj)} {o1 o2 o3 o4 o5 o6 o7 : Obj} (h : Fresh W (celL L o1 o2 o3 o4 o5 o6 o7 R)) (hO : Off L R) : Off L (W ++ R) :=
  Off.append (fun p hp => .inr (show L + 7 < p.1 from h p hp _ (.head _))) hO
section
local macro_rules | `(tactic| walk_at "storeName") => `(tactic| refine Box.out ?_)
local macro_rules | `(tactic| walk_at "call ref") => `(tactic| refine Box.out ?_)
theorem seg16 (prog : Program) (w : World) (p : Program) (loose : List Str) (mean : ExcName → Option Value) (mg mb : Str → Option Value) (g : Heap) (L fa : Addr) (s0 : Shared) (R : List (Addr × Obj)) (B : Below callerA g [] g) (X : (hd.heap_39 w.params).In g) (T : Top p loose mean mg mb g) (hO : Off L R) (Q : Flow → Shared → Prop) (s : Shared) (bs : List Bool) (c2 c3 : Option Value) (t1 : Tok) (hn : bs.length ≤ 6) (lw st : Value)
    (H : LSt s0 g L (some (.str (tx bs) t1)) c2 c3 none none none none [("low", lw), ("straight", st)] R s)
    (hQ : ∀ s' x W, WsIn w.params W x (wsB bs) → Fresh W R → Off L (W ++ R) → LSt s0 g L (some (.str (tx bs) t1)) c2 c3 (some (.ref x)) none none none [("low", lw), ("straight", st)] (W ++ R) s' → LSeg prog w L fa 17 Q s') :
    LSeg prog w L fa 16 Q s := by
  w_top off
  refine execs_cut 1 (fun s' => Box (∃ x W, WsIn w.params W x (wsB bs) ∧ Fresh W R ∧ Off L (W ++ R) ∧ LSt s0 g L (some (.str (tx bs) t1)) c2 c3 (some (.ref x)) none none none [("low", lw), ("straight", st)] (W ++ R) s')) ?_ (fun s' ⟨x, W, h1, h0, h2, h3⟩ => hQ s' x W h1 h0 h2 h3)
  conv in (List.take _ _) => whnf
  simp only [List.take_zero]
  refine LSt.elim H ?_
  clear H
  intro h tk m o1 o2 o3 o4 o5 o6 o7 F N d1 d2 d3 d4 d5 d6 d7
  have la := tx_len bs
  (try k_unmd); k_fold
  (try dsimp only)
  k_steps
  refine Box.in ?_
  refine law_use (ws_spec _ _ _ _ _ _ _ _ _ _ bs (by rw [app_len]; show _ + 3 ≤ 20; omega) (fun i b h => app_get h) (fun k h => by
    rw [app_end] at h
    have e : k = 120 := (Option.some.inj h).symm
    subst e; exact ⟨by decide, by decide⟩) (by show bs.length ≤ (tx bs ++ _).length; rw [app_len]; omega)) (by decide) B F X N T ?_
  rintro v9 h9 tk9 n9 ⟨x, W, rfl, rfl, ⟨hc, hf⟩, hW⟩ F9 N9
  have hO9 := Off.fresh hf hO
  replace N9 := News.swapA N9
  clear F N
  k_steps
  refine Box.in ?_
  refine st_line F9 N9 hO9 d4 ?_
  clear F9 N9
  intro h5 o5 F9 N9 d9
  (try dsimp only)
  k_steps
  refine Box.in ?_
  exact ⟨x, W, hW, fun p hp q hq => hf p hp q (celL.mem hq), hO9, LSt.intro F9 N9 d1 d2 d3 d9 d5 d6 d7 (by kst_all)⟩
local macro_rules | `(tactic| k_mem) => `(tactic| walk_at "mine mem")
theorem seg17 (prog : Program) (w : World) (p : Program) (loose : List Str) (mean : ExcName → Option Value) (mg mb : Str → Option Value) (g : Heap) (L fa : Addr) (s0 : Shared) (R : List (Addr × Obj)) (B : Below callerA g [] g) (X : (hd.heap_39 w.params).In g) (T : Top p loose mean mg mb g) (hO : Off L R) (Q : Flow → Shared → Prop) (s : Shared) (bs : List Bool) (n : Nat) (c1 : Option Value) (t2 t3 t5 : Tok) (st : Value) (x : Addr) (hx : WsIn w.params R x (wsB bs)) (hbn : bs.length = n)
    (hwn : (wsB bs).n = n) (hwt : (wsB bs).nt = bs.count true) (hws : decide (((wsB bs).count.length : Int) ≤ 1) = decide (lowF bs n = 0))
    (H : LSt s0 g L c1 (some (.int (n : Int) t2)) (some (.int ((bs.count true : Nat) : Int) t3)) (some (.ref x)) none none none [("low", .int (lowF bs n) t5), ("straight", st)] R s)
    (hQ : ∀ s', LSt s0 g L c1 (some (.int (n : Int) t2)) (some (.int ((bs.count true : Nat) : Int) t3)) (some (.ref x)) none none none [("straight", st)] R s' → LSeg prog w L fa 18 Q s') :
    LSeg prog w L fa 17 Q s := by
  refine execs_cut 1 (fun s' => Box (LSt s0 g L c1 (some (.int (n : Int) t2)) (some (.int ((bs.count true : Nat) : Int) t3)) (some (.ref x)) none none none [("straight", st)] R s')) ?_ (fun s' h => hQ s' h)
  conv in (List.take _ _) => whnf
  simp only [List.take_zero]
  refine LSt.elim H ?_
  clear H
  intro h tk m o1 o2 o3 o4 o5 o6 o7 F N d1 d2 d3 d4 d5 d6 d7
  refine WsIn.elim hx ?_
  intro dx D' D zs k0 k1 k2 k3 k4 t0 tn tt tb y h1 h2 h3 h4 hZ
  rw [hwn, hwt, hws] at h2
  (try k_unmd); k_fold
  (try dsimp only)
  k_steps
  · rename (_ != _) = true => hb
    exfalso
    have e : (lowF bs n == 0) = decide (lowF bs n = 0) := rfl
    rw [e, bne_self_eq_false] at hb
    cases hb
  · refine Box.in ?_
    exact LSt.intro (by k_asm) (News.sub (by k_asm) (fun p hp => .tail _ (.tail _ hp))) d1 d2 d3 d4 d5 d6 d7 (by kst_all)
end
end Mine
local macro_rules | `(tactic| walk_at "mine pad") => `(tactic| skip)
local macro_rules | `(tactic| walk_at "mine pad") => `(tactic| skip)
local macro_rules | `(tactic| walk_at "mine pad") => `(tactic| skip)
local macro_rules | `(tactic| walk_at "mine pad") => `(tactic| skip)
open PySem PySem.W PyProof.Rows PySem.Calls
set_option maxRecDepth 100000
set_option maxHeartbeats 4000000
namespace Mine
theorem Fresh.append {V W l : List (Addr × Obj)} (a : Fresh V l) (b : Fresh W l) : Fresh (V ++ W) l := fun q hq => (List.mem_append.mp hq).elim (a q) (b q)
theorem Fresh.sub {V l k : List (Addr × Obj)} (a : Fresh V l) (h : ∀ p ∈ k, p ∈ l) : Fresh V k := fun q hq p hp => a q hq p (h p hp)
section
variable {prog : Program} {w : World} {A : Around} {h₀ : Heap} {L : Addr} {m : Str → Option Value} {env : Env} {elt : Expr} {x : Str} {scope : Scope} {cl : List (Str × Addr)} {s₁ : Shared} {news : List (Addr × Obj)} {Fin : Shared → List Value → List (Addr × Obj) → Prop}
/-- a comprehension over a list of the ledger, whose element makes objects that stay -/
theorem src_grow {ax : Addr} {vs : List Value} {k : Nat} (Inv : Nat → List Value → List (Addr × Obj) → Prop) (hm : (ax, W.listOf vs.toArray k) ∈ news) (hn : vs.length ≤ 1000) (hh : A.handled = none) (F : Fr h₀ L s₁.heap m) (N : News h₀ L s₁.heap news) (h0 : Inv 0 [] [])
    (step : ∀ i I oI C oC D m₂ h tk v ys V (E' : Value → Shared → Prop), i < vs.length → vs[i]? = some v → Inv i ys V → LCg.NsObj oC m₂ → m₂ x = some v → Fr h₀ L h m → News h₀ L h ((I, oI) :: (C, oC) :: (D, LCg.lst ys) :: (V ++ news)) →
      wpAny (model prog w) A (eval elt (compEnvC scope cl C env)) (fun y s' => Box (∃ h' tk' V1, s' = { s₁ with heap := h', toks := tk' } ∧ Fr h₀ L h' m ∧ News h₀ L h' (V1 ++ ((I, oI) :: (C, oC) :: (D, LCg.lst ys) :: (V ++ news))) ∧ Fresh V1 ((I, oI) :: (C, oC) :: (D, LCg.lst ys) :: (V ++ news)) ∧ Inv (i + 1) (ys ++ [y]) (V1 ++ V))) E' { s₁ with heap := h, toks := tk })
    (fin : ∀ g' ys V, Inv vs.length ys V → Fresh V news → Fin { s₁ with heap := g' } ys (V ++ news)) : LCg.CompSrc prog w A h₀ L m env elt x scope cl Fin (.ref ax) s₁ := by
  refine LCg.CompSrc.ledger (its := vs.toArray) (k := k) hh F N hm (by show vs.toArray.size ≤ 16777216; rw [List.size_toArray]; omega) ?_
  intro g'
  refine comp_rest _ (fun i ys nw => ∃ V, nw = V ++ news ∧ Inv i ys V ∧ Fresh V news) ?_ ?_ ⟨[], rfl, h0, Fresh.nil⟩
  · rintro i ys nw v I oI C oC D m₂ h tk E' hi ⟨V, rfl, hV, hf⟩ hv hC hx F' N' off ne
    refine wpAny_mono (step i I oI C oC D m₂ h tk v ys V E' (by simpa using hi) (by simpa using hv) hV hC hx F' N') (fun y s' hq => ?_) fun _ _ e => e
    obtain ⟨h', tk', V1, rfl, F2, N2, f2, hI⟩ := hq
    refine ⟨h', tk', (V1 ++ V) ++ news, rfl, F2, fun p hp => N2 p ?_, LCg.Off3.of fun p hp => ?_, Or.inr ⟨_, List.mem_append_right _ hm, rfl, _, rfl⟩, V1 ++ V, rfl, hI, Fresh.append (Fresh.sub f2 fun p hp => .tail _ (.tail _ (.tail _ (List.mem_append_right _ hp)))) hf⟩
    · simp only [List.mem_cons, List.mem_append] at hp ⊢
      rcases hp with h | h | h | (h | h) | h <;> simp [h]
    · rcases List.mem_append.mp hp with hp | hp
      · rcases List.mem_append.mp hp with hp | hp
        · exact ⟨Fresh.ne f2 (q := (I, oI)) (.head _) p hp, Fresh.ne f2 (q := (C, oC)) (.tail _ (.head _)) p hp, Fresh.ne f2 (q := (D, LCg.lst ys)) (.tail _ (.tail _ (.head _))) p hp⟩
        · exact LCg.Off3.mem off p (List.mem_append_left _ hp)
      · exact LCg.Off3.mem off p (List.mem_append_right _ hp)
  · rintro ys nw ⟨V, rfl, hV, hf⟩
    exact fin g' ys V (by simpa using hV) hf
end
/-- a list of instances, one a text -/
noncomputable def WsRow (P : Params) (W : List (Addr × Obj)) (f : Nat → WsD) (ys : List Value) : Prop := ∀ (j : Nat) y, ys[j]? = some y → ∃ x, y = .ref x ∧ WsIn P W x (f j)
theorem WsRow.snoc {P : Params} {V W : List (Addr × Obj)} {f : Nat → WsD} {ys : List Value} {x : Addr} (h : WsRow P V f ys) (hx : WsIn P W x (f ys.length)) : WsRow P (W ++ V) f (ys ++ [.ref x]) := by
  intro j y hj
  rcases Nat.lt_or_ge j ys.length with q | q
  · rw [List.getElem?_append_left q] at hj
    obtain ⟨x', e, hw⟩ := h j y hj
    exact ⟨x', e, hw.mono fun p hp => List.mem_append_right _ hp⟩
  · rw [List.getElem?_append_right q] at hj
    rcases Nat.eq_or_lt_of_le q with q | q
    · rw [← q, Nat.sub_self] at hj
      obtain rfl : Value.ref x = y := by simpa using hj
      exact ⟨x, rfl, q ▸ hx.mono fun p hp => List.mem_append_left _ hp⟩
    · rw [List.getElem?_eq_none (by simp; omega)] at hj; cases hj
theorem WsRow.mono {P : Params} {V W : List (Addr × Obj)} {f : Nat → WsD} {ys : List Value} (h : WsRow P V f ys) (hs : ∀ p ∈ V, p ∈ W) : WsRow P W f ys := fun j y hj => by
  obtain ⟨x, e, hw⟩ := h j y hj
  exact ⟨x, e, hw.mono hs⟩
section
local macro_rules | `(tactic| walk_at "storeName") => `(tactic| ((with_reducible show wpAny _ _ (storeName _ (Str.ofString "lasts") _) _ _ _); refine Box.out ?_))
theorem off1_right {D : Addr} {W : List (Addr × Obj)} : ∀ {V : List (Addr × Obj)}, LCg.Off1 D (V ++ W) → LCg.Off1 D W
  | [], h => h
  | _ :: _, h => off1_right h.2
local macro_rules | `(tactic| walk_at "CompSrc") => `(tactic| refine Box.out ?_)
local macro_rules | `(tactic| walk_at "eval ListComp") => `(tactic| walk_at "mine comp")
local macro_rules | `(tactic| walk_at "call ref") => `(tactic| refine Box.out ?_)
theorem seg18 (prog : Program) (w : World) (p : Program) (loose : List Str) (mean : ExcName → Option Value) (mg mb : Str → Option Value) (g : Heap) (L fa : Addr) (s0 : Shared) (R : List (Addr × Obj)) (B : Below callerA g [] g) (X : (hd.heap_39 w.params).In g) (T : Top p loose mean mg mb g) (hO : Off L R) (Q : Flow → Shared → Prop) (s : Shared) (c1 c2 c3 c4 : Option Value) (n : Nat) (hn : n ≤ 6) (D3 : Addr) (ys3 : List Value)
    (h3 : (D3, LCg.lst ys3) ∈ R) (hS : StrsAre ys3 ((List.range (n + 1)).map fun c => tx (stB n c)))
    (H : LSt s0 g L c1 c2 c3 c4 none none none [("straight", .ref D3)] R s)
    (hQ : ∀ s' D ys V Dl, ys.length = n + 1 → WsRow w.params V (fun j => wsB (stB n j)) ys → (Fresh V R ∧ ∀ p ∈ (D, LCg.lst ys) :: (V ++ R), p.1 ≠ Dl) → Off L ((Dl, W.listOf ([] : List Value).toArray 0) :: (D, LCg.lst ys) :: (V ++ R)) → LSt s0 g L c1 c2 c3 c4 (some (.ref Dl)) none none [("row", .ref D), ("straight", .ref D3)] ((Dl, W.listOf ([] : List Value).toArray 0) :: (D, LCg.lst ys) :: (V ++ R)) s' → LSeg prog w L fa 19 Q s') :
    LSeg prog w L fa 18 Q s := by
  w_top off
  refine execs_cut 1 (fun s' => Box (∃ D ys V Dl, ys.length = n + 1 ∧ WsRow w.params V (fun j => wsB (stB n j)) ys ∧ (Fresh V R ∧ ∀ p ∈ (D, LCg.lst ys) :: (V ++ R), p.1 ≠ Dl) ∧ Off L ((Dl, W.listOf ([] : List Value).toArray 0) :: (D, LCg.lst ys) :: (V ++ R)) ∧ LSt s0 g L c1 c2 c3 c4 (some (.ref Dl)) none none [("row", .ref D), ("straight", .ref D3)] ((Dl, W.listOf ([] : List Value).toArray 0) :: (D, LCg.lst ys) :: (V ++ R)) s')) ?_ (fun s' ⟨D, ys, V, Dl, h1, h2, h0, h3, h4⟩ => hQ s' D ys V Dl h1 h2 h0 h3 h4)
  conv in (List.take _ _) => whnf
  simp only [List.take_zero]
  refine LSt.elim H ?_
  clear H
  intro h tk m o1 o2 o3 o4 o5 o6 o7 F N d1 d2 d3 d4 d5 d6 d7
  have l3 := hS.length
  rw [List.length_map, List.length_range] at l3
  (try k_unmd); k_fold
  (try dsimp only)
  k_steps
  refine Box.in ?_
  refine src_grow (vs := ys3) (k := ys3.length) (fun i ys V => ys.length = i ∧ WsRow w.params V (fun j => wsB (stB n j)) ys) (celL.mem h3) (by omega) rfl F N ⟨rfl, fun j y hj => by cases hj⟩ ?step ?fin
  case step =>
    clear F N
    intro i I oI C oC D' m2 h' tk' v ys V E' hi hv hinv hC hx F' N'
    obtain ⟨u3, x3, q3, rfl⟩ := strs_at hS hv
    obtain rfl : tx (stB n i) = x3 := by simpa [show i < n + 1 by omega] using q3
    have hst : (stB n i).length ≤ 12 := by simp [stB]; omega
    k_steps
    refine Box.in ?_
    refine law_use (ws_spec _ _ _ _ _ _ _ _ (tx (stB n i)) _ (stB n i) (by rw [tx_len]; omega) (fun i b h => by simp [tx, h]) (fun k h => by
      rw [show (tx (stB n i)).cps[(stB n i).length]? = none by simp [tx]] at h
      cases h) (by simp [tx])) (by decide) B F' X N' T ?_
    rintro v9 h9 tk9 n9 ⟨x, W, rfl, rfl, ⟨hc, hf⟩, hW⟩ F9 N9
    exact Box.in ⟨h9, tk9, W, rfl, F9, N9, hf, by simp [hinv.1], WsRow.snoc hinv.2 (by rw [hinv.1]; exact hW)⟩
  case fin =>
    clear F N
    intro g' ys V hinv hf D' h' tk' F' N' q1
    have q2 : Off L ((D', LCg.lst ys) :: (V ++ R)) := Off.cons (off_new (o := LCg.lst ys) (off1_right q1) (N' _ (.head _)).2.1 hO _ (.head _)) (Off.fresh hf hO)
    replace N' := News.sub (b := (D', LCg.lst ys) :: celL L o1 o2 o3 o4 o5 o6 o7 (V ++ R)) N' (fun p hp => (List.mem_cons.mp hp).elim (fun e => e ▸ .head _) fun hp => .tail _ (celL.swap p hp))
    replace N' := News.swap N'
    have hf2 : Fresh V R := fun p hp q hq => hf p hp q (celL.mem hq)
    clear q1 hf
    obtain ⟨R2, hR2⟩ : ∃ R2, R2 = (D', LCg.lst ys) :: (V ++ R) := ⟨_, rfl⟩
    rw [← hR2] at N' q2
    k_steps
    refine Box.in ?_
    rename Fr g L _ _ => F2
    rename News g L _ _ => N2
    replace N2 := News.swap (News.tl N2)
    rename _ ∧ _ ∧ _ ∧ _ ∧ _ ∧ _ ∧ _ ∧ AllLt _ R2 => q9
    have q8 := allLt_mem q9.2.2.2.2.2.2.2
    refine st_lasts F2 N2 (Off.cons (by dsimp only; omega) q2) d5 ?_
    clear F2 N2
    intro h2 o5' F2 N2 d5'
    (try dsimp only)
    k_steps
    refine Box.in ?_
    subst hR2
    exact ⟨_, ys, V, _, by omega, hinv.2, ⟨hf2, fun p hp => Nat.ne_of_lt (q8 p hp)⟩, Off.cons (by dsimp only; omega) q2, LSt.intro F2 N2 d1 d2 d3 d4 d5' d6 d7 (by kst_all)⟩
end
end Mine
local macro_rules | `(tactic| walk_at "mine pad") => `(tactic| skip)
local macro_rules | `(tactic| walk_at "mine pad") => `(tactic| skip)
local macro_rules | `(tactic| walk_at "mine pad") => `(tactic| skip)
local macro_rules | `(tactic| walk_at "mine pad") => `(tactic| skip)
local macro_rules | `(tactic| walk_at "mine pad") => `(tactic| skip)
open PySem PySem.W PyProof.Rows PySem.Calls
set_option maxRecDepth 100000
set_option maxHeartbeats 4000000
namespace Mine
noncomputable def runsF (bs : List Bool) : List Int := ((Txt.split (tx bs) (Str.ofString "\t")).dropLast).map fun x => (x.length : Int)
theorem off1_mem {D : Addr} : ∀ {l : List (Addr × Obj)}, LCg.Off1 D l → ∀ p ∈ l, p.1 ≠ D
  | [], _, _, h => nomatch h
  | q :: r, ⟨h1, h2⟩, p, h => by
    rcases List.mem_cons.mp h with rfl | h
    · exact h1
    · exact off1_mem h2 p h
theorem split_small (bs : List Bool) (hl : bs.length ≤ 6) {i : Nat} {x : Str} (h : ((Txt.split (tx bs) (Str.ofString "\t")).dropLast)[i]? = some x) : x.length ≤ 6 := by
  have q := fin_all (P := fun bs => (Txt.split (tx bs) (Str.ofString "\t")).dropLast.all fun x => decide (x.length ≤ 6)) 6 (by decide +kernel) bs hl
  exact of_decide_eq_true (List.all_eq_true.mp q x (List.mem_of_getElem? h))
theorem strs_values : ∀ (l : List (Str × Tok)), StrsAre (strValues l) (l.map (·.1))
  | l => strsAre_of_values l
section
local macro_rules | `(tactic| walk_at "call builtin:str.split") => `(tactic| refine Box.out ?_)
local macro_rules | `(tactic| walk_at "subscriptTail Name Slice ref ref") => `(tactic| refine Box.out ?_)
local macro_rules | `(tactic| walk_at "CompSrc") => `(tactic| refine Box.out ?_)
local macro_rules | `(tactic| walk_at "exec Assign cons ListComp") => `(tactic| walk_at "mine acomp")
theorem seg19 (prog : Program) (w : World) (p : Program) (loose : List Str) (mean : ExcName → Option Value) (mg mb : Str → Option Value) (g : Heap) (L fa : Addr) (s0 : Shared) (R : List (Addr × Obj)) (B : Below callerA g [] g) (X : (hd.heap_39 w.params).In g) (T : Top p loose mean mg mb g) (hO : Off L R) (Q : Flow → Shared → Prop) (s : Shared) (bs : List Bool) (t1 : Tok) (c2 c3 c4 c5 : Option Value) (hb : bs.length ≤ 6) (rw_ st : Value)
    (H : LSt s0 g L (some (.str (tx bs) t1)) c2 c3 c4 c5 none none [("row", rw_), ("straight", st)] R s)
    (hQ : ∀ s' D ys, IntsAre ys (runsF bs) → (∀ p ∈ R, p.1 ≠ D) → Off L ((D, LCg.lst ys) :: R) → LSt s0 g L (some (.str (tx bs) t1)) c2 c3 c4 c5 none none [("runs", .ref D), ("row", rw_), ("straight", st)] ((D, LCg.lst ys) :: R) s' → LSeg prog w L fa 20 Q s') :
    LSeg prog w L fa 19 Q s := by
  w_top off
  refine execs_cut 1 (fun s' => Box (∃ D ys, IntsAre ys (runsF bs) ∧ (∀ p ∈ R, p.1 ≠ D) ∧ Off L ((D, LCg.lst ys) :: R) ∧ LSt s0 g L (some (.str (tx bs) t1)) c2 c3 c4 c5 none none [("runs", .ref D), ("row", rw_), ("straight", st)] ((D, LCg.lst ys) :: R) s')) ?_ (fun s' ⟨D, ys, h1, h0, h2, h3⟩ => hQ s' D ys h1 h0 h2 h3)
  conv in (List.take _ _) => whnf
  simp only [List.take_zero]
  refine LSt.elim H ?_
  clear H
  intro h tk m o1 o2 o3 o4 o5 o6 o7 F N d1 d2 d3 d4 d5 d6 d7
  have la := tx_len bs
  (try k_unmd); k_fold
  (try dsimp only)
  k_steps
  refine Box.in ?_
  k_dflt (refine KSpl.split1 F N (by decide) ?_ (by rw [la]; show _ ≤ 16777216; omega))
  clear F N
  intro D1 l h1 k1 e1 a1 F N q1
  (try dsimp only)
  k_steps
  refine Box.in ?_
  rename Fr g L _ _ => F2
  rename News g L _ _ => N2
  have hsl : (strValues l).length = (Txt.split (tx bs) (Str.ofString "\t")).length := by rw [a1.length, e1]
  have hs2 := split_le (tx bs) (Str.ofString "\t")
  k_dflt (refine' kmk_slice_lit (zs := (strValues l).take ((strValues l).length - 1)) F2 N2 (N2.isList (.head _)) ?p9 (IsPart.int (-((1 : Nat) : Int)) _) ?e9 ?_ ?s9 ?t9 ?z9)
  case p9 => kmk_part
  case e9 =>
    rw [slicePick_butLast _ 1 (by decide), List.size_toArray]
  case s9 => with_unfolding_all rfl
  case t9 => exact fun _ => rfl
  case z9 => show (strValues l).toArray.size ≤ 16777216; rw [List.size_toArray]; omega
  clear F2 N2
  intro D2 h2 F2 N2 l2
  (try dsimp only)
  k_steps
  refine Box.in ?_
  refine src_list (vs := (strValues l).take ((strValues l).length - 1)) (k := 0) (fun i y => ∃ t x, (runsF bs)[i]? = some x ∧ y = .int x t) (.head _) (by rw [List.length_take]; omega) rfl F2 N2 ?step ?fin
  case step =>
    clear F2 N2
    intro i I oI C oC D' m2 h' tk' v ys E' hi hv hC hx F' N' off ne
    obtain ⟨t9, x9, q9, rfl⟩ := strs_at (strs_take _ a1) hv
    rw [e1, hsl, ← List.dropLast_eq_take] at q9
    have hx9 := split_small bs hb q9
    k_steps
    refine Box.in ?_
    refine ⟨_, _, rfl, by k_asm, by k_asm, _, _, ?_, rfl⟩
    unfold runsF
    rw [List.getElem?_map, q9]; rfl
  case fin =>
    clear F2 N2
    intro g' ys hl hV D' h' tk' F' N' q3
    have hR : (runsF bs).length = ys.length := by
      rw [hl, List.length_take]; unfold runsF; rw [List.length_map, List.length_dropLast, hsl]; omega
    have hJ : IntsAre ys (runsF bs) := ints_get hR.symm hV
    (try k_unmd)
    k_steps
    refine Box.in ?_
    exact ⟨_, _, hJ, fun p hp => off1_mem q3.2.2 p (celL.mem hp), off_new q3.2.2 (N' _ (.head _)).2.1 hO, LSt.intro F' (News.swap (News.sub N' (fun p hp => (List.mem_cons.mp hp).elim (fun e => e ▸ .head _) fun hp => .tail _ (.tail _ (.tail _ hp))))) d1 d2 d3 d4 d5 d6 d7 (by kst_all)⟩
end
end Mine
local macro_rules | `(tactic| walk_at "mine pad") => `(tactic| skip)
local macro_rules | `(tactic| walk_at "mine pad") => `(tactic| skip)
local macro_rules | `(tactic| walk_at "mine pad") => `(tactic| skip)
local macro_rules | `(tactic| walk_at "mine pad") => `(tactic| skip)
local macro_rules | `(tactic| walk_at "mine pad") => `(tactic| skip)
open PySem PySem.W PyProof.Rows PySem.Calls
set_option maxRecDepth 100000
namespace Mine
section
variable {prog : Program} {w : World} {A : Around} {s : Shared} {env : Env} {g : Heap} {body : List Stmt} {Q : Flow → Shared → Prop}
/-- a loop over a range whose target is a cell: the turn begins with the store -/
theorem turnsRange {σ : Type} {x : Str} {px : Pos} {r : Addr} {a b : Int} {t u v : Tok} {n : Nat} {m₀ : Str → Option Value}
    (ps : Nat → σ → List (Str × Value)) (led : Nat → σ → List (Addr × Obj)) (J : Nat → σ → Prop) (c₀ : σ)
    (hh : A.handled = none) (hr : IsRange s.heap r a b 1 t u v) (hsmall : Builtin.Range.small a b 1 = true) (hn : Builtin.Range.rangeSize a b 1 = (n : Int))
    (F : Fr g env.locals s.heap (kstB m₀ (ps 0 c₀))) (N : News g env.locals s.heap (led 0 c₀)) (hj : J 0 c₀)
    (turn : ∀ i c t m h tk own I, i < n → J i c → (∀ p ∈ led i c, p.1 ≠ I) → ((∃ o, (I, o) ∈ own) ∧ ∀ p ∈ own, p.1 = I) → Fr g env.locals h (kstB m (ps i c)) → News g env.locals h (led i c ++ own) →
      wpAny (model prog w) A (assign (.Name x px) env (.int (a + (i : Int)) t)) (fun _ s₃ => wpAny (model prog w) A (execs body env) (LStep s g env.locals Q I own (ps (i + 1)) (led (i + 1)) (J (i + 1))) (fun _ _ => False) s₃) (fun _ _ => False) { s with heap := h, toks := tk })
    (done : ∀ c m h tk, J n c → Fr g env.locals h (kstB m (ps n c)) → News g env.locals h (led n c) → Q .next { s with heap := h, toks := tk }) :
    wpAny (model prog w) A (pyIter (.ref r)) (fun it s₂ => TurnsAt prog w A g env (.Name x px) body Q (fun _ _ => False) it s₂) (fun _ _ => False) s := by
  refine wpAny_pyIter_range hr hsmall ?_
  have hI := next_is_new F
  have W := KTurns.ofWalks (target := .Name x px) (LCg.range_walks (prog := prog) (w := w) (I := s.heap.objs.size) hh a n) (fun i v s Q E _ q => wpAny_pure q)
  refine ⟨s.heap.objs.size, _, _, n, _, _, _, _, _, (fun i m nx => ∃ c m', J i c ∧ nx = led i c ∧ m = kstB m' (ps i c)), rfl, W, ?_, ?_, ?_, ?_, F.push _, (fun p hp => ⟨Heap.get?_push_of_some _ (N p hp).1, (N p hp).2⟩), ⟨c₀, m₀, hj, rfl, rfl⟩, ?_, ?_⟩
  · intro hm; exact absurd F.ns.lt ((List.mem_singleton.mp hm) ▸ Nat.lt_irrefl _)
  · intro b hb; rw [List.mem_singleton.mp hb]; exact hI
  · intro p hp h; exact Nat.ne_of_lt (Heap.lt_size (N p hp).1) (List.mem_singleton.mp h)
  · show IsRangeIter _ _ _ _ _
    rw [hn]; simpa using Heap.get?_push_size _ rfl
  · rintro i v m₁ news₁ h tk own hi ⟨t', rfl⟩ ⟨c, m', hJ, rfl, rfl⟩ hnw hown hlive hall hst F₁ N₁
    have N₂ : News g env.locals h (led i c ++ own) := fun p hp => N₁ p ((List.mem_append.mp hp).elim (fun h => List.mem_append.mpr (.inr h)) fun h => List.mem_append.mpr (.inl h))
    have st : h.get? s.heap.objs.size = some _ := hst
    have hIo := hall s.heap.objs.size (List.mem_singleton.mpr rfl) hI _ st
    refine wpAny_mono (turn i c t' m' h tk own s.heap.objs.size hi hJ (fun p hp q => hnw p hp (List.mem_singleton.mpr q)) ⟨⟨_, hIo⟩, fun p hp => List.mem_singleton.mp (hown p hp)⟩ F₁ N₂) (fun _ s₃ h₃ => wpAny_mono h₃ (fun f s₂ hq => ?_) fun _ _ x => x.elim) fun _ _ x => x.elim
    have up : Box (∃ c', J (i + 1) c' ∧ (∀ p ∈ led (i + 1) c', p.1 ≠ s.heap.objs.size) ∧ Mid s g env.locals (led (i + 1) c' ++ own) (ps (i + 1) c') s₂) → LoopStepU g env.locals [s.heap.objs.size] own (fun m nx => ∃ c m', J (i + 1) c ∧ nx = led (i + 1) c ∧ m = kstB m' (ps (i + 1) c)) { s with heap := h, toks := tk } .next s₂ := by
      rintro ⟨c', hJ', hne, h', tk', m'', rfl, F', N'⟩
      exact ⟨rfl, h', tk', _, led (i + 1) c', rfl, F', fun p hp => N' p ((List.mem_append.mp hp).elim (fun h => List.mem_append.mpr (.inr h)) fun h => List.mem_append.mpr (.inl h)), fun p hp q => hne p hp (List.mem_singleton.mp q), c', m'', hJ', rfl, rfl⟩
    cases f with
    | ret v => exact .ret hq
    | brk => exact .brk hq
    | next => exact .next (up hq)
    | cont => exact .cont (up hq)
  · rintro h' tk m' news' F' N' _ ⟨c, m'', hJ, rfl, rfl⟩
    exact done c m'' h' tk hJ F' N'
end
/-- what a lambda's body ends in -/
noncomputable def RetV (s : Shared) (g : Heap) (L : Addr) (P : Value → List (Addr × Obj) → Prop) (v : Value) (s' : Shared) : Prop :=
  ∃ h tk m' news', s' = { s with heap := h, toks := tk } ∧ Fr g L h m' ∧ News g L h news' ∧ P v news'
section
variable {prog : Program} {w : World} {K : Frag} {p : Program} {loose : List Str} {mean : ExcName → Option Value} {mg mb : Str → Option Value} {r : Nat} {f : Addr} {news : List (Addr × Obj)} {args : List Value} {P : Value → List (Addr × Obj) → Prop}
  {name qual : Str} {params : Arguments} {body : Expr} {scope : Scope} {cl' : List (Str × Addr)} {pm ctv : Value} {c' : Addr} {oc : Obj} {vs : Array Value} {tq : Tok} {binds : List (Str × Value)}
theorem FnOk.of_lam
    (ho : (f, kla_obj name qual params body scope cl' pm c' ctv) ∈ news) (hc : (c', oc) ∈ news) (hd : oc.data = .fields vs) (hv : vs[1]? = some (.str qual tq))
    (hbind : bindArgs (kla_fn name qual params body scope cl' pm (.ref c') ctv) ⟨args, []⟩ = pure binds) (hloc : ∀ y ∈ binds, scope.names.lookup y.1 = some .local)
    (hr : 1 ≤ r)
    (h : ∀ (dp un : Nat) (gd : Option (List Code)) (cn : Str) (cs : Scope) (a : Addr) (ccd : Value) (cl : List (Str × Addr)) (outer : List Env) (base : Heap) (L : Addr) (g : Heap) (L' : Addr) (h₁ : Heap) (s : Shared) (tk : Nat),
      Fr g L' h₁ (fun y => binds.reverse.lookup y) → News g L' h₁ news → Below (ktrTop dp un gd cn cs L a ccd cl outer) base (envX cn cs L a ccd cl :: outer) g → K.In g → Top p loose mean mg mb g → dp + r < recursionLimit → un + 8 * r < cLine →
      wpAny (model prog w) ((ktrTop dp un gd cn cs L a ccd cl outer).deeper (envX qual scope L' f (.ref c') cl')) (eval body (envX qual scope L' f (.ref c') cl')) (RetV s g L' P) (fun _ _ => False) { s with heap := h₁, toks := tk })
    (hco : scope.isCoroutine = false) (hgen : scope.isGenerator = false) (hk : scope.kind = .function) (hcell : ∀ x ∈ scope.names, x.2 ≠ .cell) :
    FnOk prog w K p loose mean mg mb r (.ref f) news args [] P := by
  intro dp un gd cn cs a ccd cl outer A₀ base h₀ L m s Q E B F X N T hck hd' hu hret
  refine wpAny_call ?_
  refine kla_code B F X N T (env := envX cn cs L a ccd cl) rfl rfl hck ho (codeRec_news N hc hd hv) (by show dp < _; omega) hbind hloc ?_ hco hgen hk hcell
  intro g L' h₁ FG F' N' B' X' T'
  refine wpAny_mono (h dp un gd cn cs a ccd cl outer base L g L' h₁ s _ F' N' B' X' T' hd' hu) (fun v s' hp => ?_) fun _ _ x => x.elim
  obtain ⟨h, tk, m', news', rfl, F₂, N₂, hP⟩ := hp
  exact ⟨L', m', news', F₂, N₂, fun F₃ N₃ => hret _ _ _ _ hP F₃ N₃⟩
end
end Mine
open PySem PySem.W PyProof.Rows PySem.Calls
set_option maxRecDepth 100000
set_option maxHeartbeats 4000000
namespace Mine
noncomputable abbrev loopB : List Stmt := match (fnB 13).drop 20 with
  | (.For _ _ b _ _) :: _ => b
  | _ => []
noncomputable abbrev LBd (prog : Program) (w : World) (L fa : Addr) (k : Nat) (Q : Flow → Shared → Prop) (s : Shared) : Prop := wpAny (model prog w) (callerA.deeper (lawE L fa)) (execs (loopB.drop k) (lawE L fa)) Q (fun _ _ => False) s
noncomputable def restF (bs : List Bool) (ts : Nat) : Int := ((runsF bs).map fun r => Int.fmod r (ts : Int)).sum
section
local macro_rules | `(tactic| walk_at "CompSrc") => `(tactic| refine Box.out ?_)
local macro_rules | `(tactic| walk_at "eval ListComp") => `(tactic| walk_at "mine comp")
local macro_rules | `(tactic| walk_at "call builtin:sum") => `(tactic| refine Box.out ?_)
local macro_rules | `(tactic| walk_at "call ref") => `(tactic| refine Box.out ?_)
local macro_rules | `(tactic| k_mem) => `(tactic| walk_at "mine mem")
theorem bd0 (prog : Program) (w : World) (p : Program) (loose : List Str) (mean : ExcName → Option Value) (mg mb : Str → Option Value) (g : Heap) (L fa : Addr) (s0 : Shared) (R : List (Addr × Obj)) (B : Below callerA g [] g) (X : (hd.heap_39 w.params).In g) (T : Top p loose mean mg mb g) (hO : Off L R) (Q : Flow → Shared → Prop) (s : Shared) (bs : List Bool) (c1 c2 c3 c5 c6 : Option Value) (x : Addr) (ts : Nat) (tt : Tok) (hb : bs.length ≤ 6) (h2 : 2 ≤ ts) (h20 : ts ≤ 20) (row st : Value) (Dr : Addr) (ysr : List Value)
    (hr : (Dr, LCg.lst ysr) ∈ R) (hI : IntsAre ysr (runsF bs)) (hx : WsIn w.params R x (wsB bs)) (hrl : (runsF bs).length ≤ 20) (hwl : (wsB bs).count.length ≤ 20)
    (H : LSt s0 g L c1 c2 c3 (some (.ref x)) c5 c6 (some (.int (ts : Int) tt)) [("runs", .ref Dr), ("row", row), ("straight", st)] R s)
    (hQ : ∀ s' t1 t2, LSt s0 g L c1 c2 c3 (some (.ref x)) c5 c6 (some (.int (ts : Int) tt)) [("rest", .int (restF bs ts) t1), ("column", .int (indentF (wsB bs) ts) t2), ("runs", .ref Dr), ("row", row), ("straight", st)] R s' → LBd prog w L fa 1 Q s') :
    LBd prog w L fa 0 Q s := by
  w_top off
  refine execs_cut 1 (fun s' => Box (∃ t1 t2, LSt s0 g L c1 c2 c3 (some (.ref x)) c5 c6 (some (.int (ts : Int) tt)) [("rest", .int (restF bs ts) t1), ("column", .int (indentF (wsB bs) ts) t2), ("runs", .ref Dr), ("row", row), ("straight", st)] R s')) ?_ (fun s' ⟨t1, t2, h⟩ => hQ s' t1 t2 h)
  conv in (List.take _ _) => whnf
  simp only [List.take_zero]
  refine LSt.elim H ?_
  clear H
  intro h tk m o1 o2 o3 o4 o5 o6 o7 F N d1 d2 d3 d4 d5 d6 d7
  have hIl := hI.length
  have hx0 := hx
  refine WsIn.elim hx ?_
  intro dx D8 D9 zs k0 k1 k2 k3 k4 t0 tn tt' tb y g1 g2 g3 g4 hZ
  (try k_unmd); k_fold
  (try dsimp only)
  k_steps
  refine Box.in ?_
  refine src_list (vs := ysr) (k := ysr.length) (fun i y => ∃ t z, ((runsF bs).map fun r => Int.fmod r (ts : Int))[i]? = some z ∧ y = .int z t) (celL.mem hr) (by omega) rfl F N ?step ?fin
  case step =>
    clear F N
    intro i I oI C oC D' m2 h' tk' v ys E' hi hv hC hx' F' N' off ne
    obtain ⟨u3, x3, q3, rfl⟩ := ints_at hI hv
    k_steps
    refine Box.in ?_
    exact ⟨_, _, rfl, by k_asm, by k_asm, _, _, by rw [List.getElem?_map, q3]; rfl, rfl⟩
  case fin =>
    clear F N
    intro g' ys hl hV D' h' tk' F' N' q3
    have hJ : IntsAre ys ((runsF bs).map fun r => Int.fmod r (ts : Int)) := ints_get (by rw [List.length_map]; omega) hV
    k_steps
    refine Box.in ?_
    k_dflt (refine sumK (by rfl) F' N' (News.isList N' (.head _)) hJ ?_)
    clear F' N'
    intro _ _ _ F' N'
    (try dsimp only)
    k_steps
    refine Box.in ?_
    refine law_use (indent_spec _ _ _ _ _ _ _ _ x (wsB bs) ts tt h2 h20 (hx0.mono fun p hp => .tail _ (celL.mem hp)) hwl) (by decide) B (by k_asm) X (by k_asm) T ?_
    rintro v9 h9 tk9 n9 ⟨e9, t9, e8⟩ F9 N9
    rw [e9] at N9
    subst e8
    (try dsimp only)
    k_steps
    refine Box.in ?_
    exact ⟨_, _, LSt.intro (by k_asm) (News.sub (by k_asm) (fun p hp => .tail _ (.tail _ hp))) d1 d2 d3 d4 d5 d6 d7 (by unfold restF; kst_all)⟩
end
end Mine
local macro_rules | `(tactic| walk_at "mine pad") => `(tactic| skip)
local macro_rules | `(tactic| walk_at "mine pad") => `(tactic| skip)
local macro_rules | `(tactic| walk_at "mine pad") => `(tactic| skip)
local macro_rules | `(tactic| walk_at "mine pad") => `(tactic| skip)
local macro_rules | `(tactic| walk_at "mine pad") => `(tactic| skip)
local macro_rules | `(tactic| walk_at "mine pad") => `(tactic| skip)
open PySem PySem.W PyProof.Rows PySem.Calls
set_option maxRecDepth 100000
set_option maxHeartbeats 4000000
namespace Mine
noncomputable abbrev lamQ (L fa : Addr) : Str := (lawE L fa).qual ++ Str.ofString "<lambda>"
/-- a code object that a lambda of the law has made -/
noncomputable def LamCode (L fa c : Addr) (W : List (Addr × Obj)) : Prop := ∃ (oc : Obj) (vs : Array Value) (t : Tok), (c, oc) ∈ W ∧ oc.data = .fields vs ∧ vs[1]? = some (.str (lamQ L fa) t)
/-- what the making of a lambda adds -/
noncomputable def NewCode (L : Nat) (V R : List (Addr × Obj)) : Prop := ∀ p ∈ V, (@LT.lt Nat _ (L + 7) p.1) ∧ (@LT.lt Nat _ 121 p.1) ∧ ∀ q ∈ R, @LT.lt Nat _ q.1 p.1
theorem LamCode.mono {L fa c : Addr} {V W : List (Addr × Obj)} (h : LamCode L fa c V) (hs : ∀ p ∈ V, p ∈ W) : LamCode L fa c W := by
  obtain ⟨oc, vs, t, h1, h2, h3⟩ := h
  exact ⟨oc, vs, t, hs _ h1, h2, h3⟩
noncomputable abbrev tab1 (c : Addr) : Obj := tabObj #[rawInt 184, rawInt 45, .ref c]
noncomputable abbrev tab2 (c d : Addr) : Obj := tabObj #[rawInt 184, rawInt 45, .ref c, rawInt 185, rawInt 45, .ref d]
theorem RetV.intro {s : Shared} {g h : Heap} {L : Addr} {P : Value → List (Addr × Obj) → Prop} {v : Value} {m : Str → Option Value} {news : List (Addr × Obj)} {tk : Nat} (F : Fr g L h m) (N : News g L h news) (hp : P v news) : RetV s g L P v { s with heap := h, toks := tk } := ⟨h, tk, m, news, rfl, F, N, hp⟩
theorem celL.lam {L : Addr} {o1 o2 o3 o4 o5 o6 o7 : Obj} {f q t : Addr × Obj} {R : List (Addr × Obj)} : ∀ p ∈ celL L o1 o2 o3 o4 o5 o6 o7 (t :: ([q] ++ R)), p ∈ f :: q :: celL L o1 o2 o3 o4 o5 o6 o7 (t :: R) := fun p hp =>
  (celL.iff.mp hp).elim (fun e => .tail _ (.tail _ (celL.iff.mpr (.inl e)))) fun e => (List.mem_cons.mp e).elim (fun e => e ▸ .tail _ (.tail _ (celL.mem (.head _)))) fun e => (List.mem_cons.mp e).elim (fun e => e ▸ .tail _ (.head _)) fun e => .tail _ (.tail _ (celL.mem (.tail _ e)))
section
local macro_rules | `(tactic| walk_at "call ref") => `(tactic| refine Box.out ?_)
local macro_rules | `(tactic| k_mem) => `(tactic| walk_at "mine mem")
local macro_rules | `(tactic| k_all) => `(tactic| with_unfolding_all assumption)
theorem bd1a (prog : Program) (w : World) (p : Program) (loose : List Str) (mean : ExcName → Option Value) (mg mb : Str → Option Value) (g : Heap) (L fa : Addr) (s0 : Shared) (R : List (Addr × Obj)) (B : Below callerA g [] g) (X : (hd.heap_39 w.params).In g) (T : Top p loose mean mg mb g) (hO : Off L R) (Q : Flow → Shared → Prop) (C : CodeHd g 123 121) (l0 : 121 < L) (s : Shared) (n : Nat) (c1 c2 c3 c4 c5 c6 : Option Value) (ts : Nat) (tt t1 t2 : Tok) (h2 : 2 ≤ ts) (h20 : ts ≤ 20) (rest col : Int) (runs st : Value) (D : Addr) (ysD : List Value)
    (h121 : ∀ p ∈ R, p.1 ≠ 121) (hyl : ysD.length = n + 1) (hn : n ≤ 6) (hwl : ∀ j, j ≤ n → (wsB (stB n j)).count.length ≤ 20)
    (hD : (D, LCg.lst ysD) ∈ R) (hRow : WsRow w.params R (fun j => wsB (stB n j)) ysD)
    (H : LSt s0 g L c1 c2 c3 c4 c5 c6 (some (.int (ts : Int) tt)) [("rest", .int rest t1), ("column", .int col t2), ("runs", runs), ("row", .ref D), ("straight", st)] ((121, tabObj #[]) :: R) s)
    (hQ : ∀ s' c V t3, LamCode L fa c V ∧ NewCode L V R → LSt s0 g L c1 c2 c3 c4 c5 c6 (some (.int (ts : Int) tt)) [("first", .int (bisF (fun i => !decide (indentF (wsB (stB n i)) ts < col)) 0 (n + 1) : Int) t3), ("rest", .int rest t1), ("column", .int col t2), ("runs", runs), ("row", .ref D), ("straight", st)] ((121, tab1 c) :: (V ++ R)) s' → LBd prog w L fa 2 Q s') :
    LBd prog w L fa 1 Q s := by
  w_top off
  rw [← hyl] at hQ
  refine execs_cut 1 (fun s' => Box (∃ c V t3, (LamCode L fa c V ∧ NewCode L V R) ∧ LSt s0 g L c1 c2 c3 c4 c5 c6 (some (.int (ts : Int) tt)) [("first", .int (bisF (fun i => !decide (indentF (wsB (stB n i)) ts < col)) 0 ysD.length : Int) t3), ("rest", .int rest t1), ("column", .int col t2), ("runs", runs), ("row", .ref D), ("straight", st)] ((121, tab1 c) :: (V ++ R)) s')) ?_ (fun s' ⟨c, V, t3, h1, h2⟩ => hQ s' c V t3 h1 h2)
  conv in (List.take _ _) => whnf
  simp only [List.take_zero]
  refine LSt.elim H ?_
  clear H
  intro h tk m o1 o2 o3 o4 o5 o6 o7 F N d1 d2 d3 d4 d5 d6 d7
  have l0' := ltN l0
  (try k_unmd); k_fold
  (try dsimp only)
  k_steps
  refine Box.in ?_
  rename Fr g L _ _ => F2
  rename News g L _ _ => N2
  have hD2 := @celL.mem L o1 o2 o3 o4 o5 o6 o7 _ _ (List.mem_cons_of_mem (121, tab1 0) hD)
  k_dflt (refine law_use (bislk_spec _ _ _ _ _ _ _ _ D ysD ysD.length _ _ _ _ _ _ _ _ _ _ col (fun i => indentF (wsB (stB n i)) ts) t2 ?hm (.head _) ?hkey (by omega)) (by decide) B F2 X N2 T ?_)
  case hm => walk_at "mine mem"
  case hkey =>
    clear F2
    intro i v hv
    obtain ⟨xi, rfl, hw⟩ := hRow i v hv
    have hi : i < ysD.length := (List.getElem?_eq_some_iff.mp hv).1
    have hwi := hwl i (by omega)
    have hw0 := hw
    refine WsIn.elim hw ?_
    intro dx D8 D9 zs k0 k1 k2 k3 k4 t0 tn tt' tb y g1 g2 g3 g4 hZ
    ( refine FnOk.of_lam (.head _) (by walk_at "mine mem") (by assumption) (by assumption) rfl (locs rfl) (by decide) ?_ rfl rfl rfl (by decide); intro dp un gd cn cs a9 ccd cl outer base L9 g9 L8 h8 s8 tk8 F8 N8 B8 X8 T8 hd8 hu8; (try k_unmd); k_fold; k_steps; refine Box.in ?_; refine' FnOk.use (indent_spec _ _ _ _ _ _ _ _ _ _ _ _ ?y1 ?y2 ?x1 ?x2) ?B ?F ?X ?N ?T ?k ?d ?u ?_; (case B => k_asm); (case F => k_asm); (case X => k_asm); (case N => k_asm); (case T => k_asm); (case k => exact rfl); (case d => ktr_room); (case u => ktr_units); (case y1 => assumption); (case y2 => assumption); (case x1 => exact WsIn.mono (by assumption) (fun p hp => by walk_at "mine mem")); (case x2 => assumption); rintro v9 h9 tk9 n9 ⟨e9, t9, e8⟩ F9 N9; rw [e9] at N9; subst e8; exact RetV.intro F9 N9 ⟨rfl, _, rfl⟩)
  rintro v9 h9 tk9 n9 ⟨e9, t9, e8⟩ F9 N9
  rw [e9] at N9
  clear F2 N2
  subst e8
  (try dsimp only)
  k_steps
  refine Box.in ?_
  rename Fr g L _ _ => F2
  rename News g L _ _ => N2
  rename _ < _ ∧ _ ∧ _ ∧ _ ∧ _ ∧ _ ∧ _ ∧ _ < _ ∧ AllLt _ R => q9
  exact ⟨_, _, t9, ⟨⟨_, _, _, .head _, by assumption, by assumption⟩, fun p hp => by
    rw [List.mem_singleton.mp hp]
    exact ⟨by have := q9.1; dsimp only; omega, q9.2.2.2.2.2.2.2.1, fun q hq => allLt_mem q9.2.2.2.2.2.2.2.2 q hq⟩⟩, LSt.intro F2 (News.sub N2 celL.lam) d1 d2 d3 d4 d5 d6 d7 (by kst_all)⟩
theorem bd1b (prog : Program) (w : World) (p : Program) (loose : List Str) (mean : ExcName → Option Value) (mg mb : Str → Option Value) (g : Heap) (L fa : Addr) (s0 : Shared) (R : List (Addr × Obj)) (B : Below callerA g [] g) (X : (hd.heap_39 w.params).In g) (T : Top p loose mean mg mb g) (hO : Off L R) (Q : Flow → Shared → Prop) (C : CodeHd g 123 121) (l0 : 121 < L) (s : Shared) (n : Nat) (c1 c2 c3 c4 c5 c6 : Option Value) (ts : Nat) (tt t1 t2 : Tok) (h2 : 2 ≤ ts) (h20 : ts ≤ 20) (rest col : Int) (runs st : Value) (D : Addr) (ysD : List Value)
    (h121 : ∀ p ∈ R, p.1 ≠ 121) (hyl : ysD.length = n + 1) (hn : n ≤ 6) (hwl : ∀ j, j ≤ n → (wsB (stB n j)).count.length ≤ 20)
    (hD : (D, LCg.lst ysD) ∈ R) (hRow : WsRow w.params R (fun j => wsB (stB n j)) ysD)
    (c d : Addr) (hc : LamCode L fa c R) (hd : LamCode L fa d R)
    (H : LSt s0 g L c1 c2 c3 c4 c5 c6 (some (.int (ts : Int) tt)) [("rest", .int rest t1), ("column", .int col t2), ("runs", runs), ("row", .ref D), ("straight", st)] ((121, tab2 c d) :: R) s)
    (hQ : ∀ s' t3, LSt s0 g L c1 c2 c3 c4 c5 c6 (some (.int (ts : Int) tt)) [("first", .int (bisF (fun i => !decide (indentF (wsB (stB n i)) ts < col)) 0 (n + 1) : Int) t3), ("rest", .int rest t1), ("column", .int col t2), ("runs", runs), ("row", .ref D), ("straight", st)] ((121, tab2 c d) :: R) s' → LBd prog w L fa 2 Q s') :
    LBd prog w L fa 1 Q s := by
  rw [← hyl] at hQ
  refine execs_cut 1 (fun s' => Box (∃ t3, LSt s0 g L c1 c2 c3 c4 c5 c6 (some (.int (ts : Int) tt)) [("first", .int (bisF (fun i => !decide (indentF (wsB (stB n i)) ts < col)) 0 ysD.length : Int) t3), ("rest", .int rest t1), ("column", .int col t2), ("runs", runs), ("row", .ref D), ("straight", st)] ((121, tab2 c d) :: R) s')) ?_ (fun s' ⟨t3, h2⟩ => hQ s' t3 h2)
  conv in (List.take _ _) => whnf
  simp only [List.take_zero]
  refine LSt.elim H ?_
  clear H
  intro h tk m o1 o2 o3 o4 o5 o6 o7 F N d1 d2 d3 d4 d5 d6 d7
  have l0' := ltN l0
  obtain ⟨oc5, vs5, tq5, hc1, hc2, hc3⟩ := hc
  obtain ⟨oc6, vs6, tq6, hd1, hd2, hd3⟩ := hd
  (try k_unmd); k_fold
  (try dsimp only)
  k_steps
  refine Box.in ?_
  rename Fr g L _ _ => F2
  rename News g L _ _ => N2
  have hD2 := @celL.mem L o1 o2 o3 o4 o5 o6 o7 _ _ (List.mem_cons_of_mem (121, tab1 0) hD)
  k_dflt (refine law_use (bislk_spec _ _ _ _ _ _ _ _ D ysD ysD.length _ _ _ _ _ _ _ _ _ _ col (fun i => indentF (wsB (stB n i)) ts) t2 ?hm (.head _) ?hkey (by omega)) (by decide) B F2 X N2 T ?_)
  case hm => walk_at "mine mem"
  case hkey =>
    clear F2
    intro i v hv
    obtain ⟨xi, rfl, hw⟩ := hRow i v hv
    have hi : i < ysD.length := (List.getElem?_eq_some_iff.mp hv).1
    have hwi := hwl i (by omega)
    have hw0 := hw
    refine WsIn.elim hw ?_
    intro dx D8 D9 zs k0 k1 k2 k3 k4 t0 tn tt' tb y g1 g2 g3 g4 hZ
    ( refine FnOk.of_lam (.head _) (by walk_at "mine mem") (by assumption) (by assumption) rfl (locs rfl) (by decide) ?_ rfl rfl rfl (by decide); intro dp un gd cn cs a9 ccd cl outer base L9 g9 L8 h8 s8 tk8 F8 N8 B8 X8 T8 hd8 hu8; (try k_unmd); k_fold; k_steps; refine Box.in ?_; refine' FnOk.use (indent_spec _ _ _ _ _ _ _ _ _ _ _ _ ?y1 ?y2 ?x1 ?x2) ?B ?F ?X ?N ?T ?k ?d ?u ?_; (case B => k_asm); (case F => k_asm); (case X => k_asm); (case N => k_asm); (case T => k_asm); (case k => exact rfl); (case d => ktr_room); (case u => ktr_units); (case y1 => assumption); (case y2 => assumption); (case x1 => exact WsIn.mono (by assumption) (fun p hp => by walk_at "mine mem")); (case x2 => assumption); rintro v9 h9 tk9 n9 ⟨e9, t9, e8⟩ F9 N9; rw [e9] at N9; subst e8; exact RetV.intro F9 N9 ⟨rfl, _, rfl⟩)
  rintro v9 h9 tk9 n9 ⟨e9, t9, e8⟩ F9 N9
  rw [e9] at N9
  clear F2 N2
  subst e8
  (try dsimp only)
  k_steps
  refine Box.in ?_
  rename Fr g L _ _ => F2
  rename News g L _ _ => N2
  exact ⟨t9, LSt.intro F2 (News.tl N2) d1 d2 d3 d4 d5 d6 d7 (by kst_all)⟩
theorem bd2a (prog : Program) (w : World) (p : Program) (loose : List Str) (mean : ExcName → Option Value) (mg mb : Str → Option Value) (g : Heap) (L fa : Addr) (s0 : Shared) (R : List (Addr × Obj)) (B : Below callerA g [] g) (X : (hd.heap_39 w.params).In g) (T : Top p loose mean mg mb g) (hO : Off L R) (Q : Flow → Shared → Prop) (C : CodeHd g 123 121) (l0 : 121 < L) (s : Shared) (n : Nat) (c1 c2 c3 c4 c5 c6 : Option Value) (ts : Nat) (tt t1 t2 : Tok) (h2 : 2 ≤ ts) (h20 : ts ≤ 20) (rest col : Int) (fv runs st : Value) (D : Addr) (ysD : List Value)
    (h121 : ∀ p ∈ R, p.1 ≠ 121) (hyl : ysD.length = n + 1) (hn : n ≤ 6) (hwl : ∀ j, j ≤ n → (wsB (stB n j)).count.length ≤ 20)
    (hD : (D, LCg.lst ysD) ∈ R) (hRow : WsRow w.params R (fun j => wsB (stB n j)) ysD)
    (c : Addr) (hc : LamCode L fa c R)
    (H : LSt s0 g L c1 c2 c3 c4 c5 c6 (some (.int (ts : Int) tt)) [("first", fv), ("rest", .int rest t1), ("column", .int col t2), ("runs", runs), ("row", .ref D), ("straight", st)] ((121, tab1 c) :: R) s)
    (hQ : ∀ s' d V t3, LamCode L fa d V ∧ NewCode L V R → LSt s0 g L c1 c2 c3 c4 c5 c6 (some (.int (ts : Int) tt)) [("last", .int (bisF (fun i => decide (col < indentF (wsB (stB n i)) ts)) 0 (n + 1) : Int) t3), ("first", fv), ("rest", .int rest t1), ("column", .int col t2), ("runs", runs), ("row", .ref D), ("straight", st)] ((121, tab2 c d) :: (V ++ R)) s' → LBd prog w L fa 3 Q s') :
    LBd prog w L fa 2 Q s := by
  rw [← hyl] at hQ
  refine execs_cut 1 (fun s' => Box (∃ d V t3, (LamCode L fa d V ∧ NewCode L V R) ∧ LSt s0 g L c1 c2 c3 c4 c5 c6 (some (.int (ts : Int) tt)) [("last", .int (bisF (fun i => decide (col < indentF (wsB (stB n i)) ts)) 0 ysD.length : Int) t3), ("first", fv), ("rest", .int rest t1), ("column", .int col t2), ("runs", runs), ("row", .ref D), ("straight", st)] ((121, tab2 c d) :: (V ++ R)) s')) ?_ (fun s' ⟨d, V, t3, h1, h2⟩ => hQ s' d V t3 h1 h2)
  conv in (List.take _ _) => whnf
  simp only [List.take_zero]
  refine LSt.elim H ?_
  clear H
  intro h tk m o1 o2 o3 o4 o5 o6 o7 F N d1 d2 d3 d4 d5 d6 d7
  have l0' := ltN l0
  (try k_unmd); k_fold
  (try dsimp only)
  k_steps
  refine Box.in ?_
  rename Fr g L _ _ => F2
  rename News g L _ _ => N2
  have hD2 := @celL.mem L o1 o2 o3 o4 o5 o6 o7 _ _ (List.mem_cons_of_mem (121, tab1 0) hD)
  k_dflt (refine law_use (bisrk_spec _ _ _ _ _ _ _ _ D ysD ysD.length _ _ _ _ _ _ _ _ _ _ col (fun i => indentF (wsB (stB n i)) ts) t2 ?hm (.head _) ?hkey (by omega)) (by decide) B F2 X N2 T ?_)
  case hm => walk_at "mine mem"
  case hkey =>
    clear F2
    intro i v hv
    obtain ⟨xi, rfl, hw⟩ := hRow i v hv
    have hi : i < ysD.length := (List.getElem?_eq_some_iff.mp hv).1
    have hwi := hwl i (by omega)
    have hw0 := hw
    refine WsIn.elim hw ?_
    intro dx D8 D9 zs k0 k1 k2 k3 k4 t0 tn tt' tb y g1 g2 g3 g4 hZ
    ( refine FnOk.of_lam (.head _) (by walk_at "mine mem") (by assumption) (by assumption) rfl (locs rfl) (by decide) ?_ rfl rfl rfl (by decide); intro dp un gd cn cs a9 ccd cl outer base L9 g9 L8 h8 s8 tk8 F8 N8 B8 X8 T8 hd8 hu8; (try k_unmd); k_fold; k_steps; refine Box.in ?_; refine' FnOk.use (indent_spec _ _ _ _ _ _ _ _ _ _ _ _ ?y1 ?y2 ?x1 ?x2) ?B ?F ?X ?N ?T ?k ?d ?u ?_; (case B => k_asm); (case F => k_asm); (case X => k_asm); (case N => k_asm); (case T => k_asm); (case k => exact rfl); (case d => ktr_room); (case u => ktr_units); (case y1 => assumption); (case y2 => assumption); (case x1 => exact WsIn.mono (by assumption) (fun p hp => by walk_at "mine mem")); (case x2 => assumption); rintro v9 h9 tk9 n9 ⟨e9, t9, e8⟩ F9 N9; rw [e9] at N9; subst e8; exact RetV.intro F9 N9 ⟨rfl, _, rfl⟩)
  rintro v9 h9 tk9 n9 ⟨e9, t9, e8⟩ F9 N9
  rw [e9] at N9
  clear F2 N2
  subst e8
  (try dsimp only)
  k_steps
  refine Box.in ?_
  rename Fr g L _ _ => F2
  rename News g L _ _ => N2
  rename _ < _ ∧ _ ∧ _ ∧ _ ∧ _ ∧ _ ∧ _ ∧ _ < _ ∧ AllLt _ R => q9
  exact ⟨_, _, t9, ⟨⟨_, _, _, .head _, by assumption, by assumption⟩, fun p hp => by
    rw [List.mem_singleton.mp hp]
    exact ⟨by have := q9.1; dsimp only; omega, q9.2.2.2.2.2.2.2.1, fun q hq => allLt_mem q9.2.2.2.2.2.2.2.2 q hq⟩⟩, LSt.intro F2 (News.sub N2 celL.lam) d1 d2 d3 d4 d5 d6 d7 (by kst_all)⟩
theorem bd2b (prog : Program) (w : World) (p : Program) (loose : List Str) (mean : ExcName → Option Value) (mg mb : Str → Option Value) (g : Heap) (L fa : Addr) (s0 : Shared) (R : List (Addr × Obj)) (B : Below callerA g [] g) (X : (hd.heap_39 w.params).In g) (T : Top p loose mean mg mb g) (hO : Off L R) (Q : Flow → Shared → Prop) (C : CodeHd g 123 121) (l0 : 121 < L) (s : Shared) (n : Nat) (c1 c2 c3 c4 c5 c6 : Option Value) (ts : Nat) (tt t1 t2 : Tok) (h2 : 2 ≤ ts) (h20 : ts ≤ 20) (rest col : Int) (fv runs st : Value) (D : Addr) (ysD : List Value)
    (h121 : ∀ p ∈ R, p.1 ≠ 121) (hyl : ysD.length = n + 1) (hn : n ≤ 6) (hwl : ∀ j, j ≤ n → (wsB (stB n j)).count.length ≤ 20)
    (hD : (D, LCg.lst ysD) ∈ R) (hRow : WsRow w.params R (fun j => wsB (stB n j)) ysD)
    (c d : Addr) (hc : LamCode L fa c R) (hd : LamCode L fa d R)
    (H : LSt s0 g L c1 c2 c3 c4 c5 c6 (some (.int (ts : Int) tt)) [("first", fv), ("rest", .int rest t1), ("column", .int col t2), ("runs", runs), ("row", .ref D), ("straight", st)] ((121, tab2 c d) :: R) s)
    (hQ : ∀ s' t3, LSt s0 g L c1 c2 c3 c4 c5 c6 (some (.int (ts : Int) tt)) [("last", .int (bisF (fun i => decide (col < indentF (wsB (stB n i)) ts)) 0 (n + 1) : Int) t3), ("first", fv), ("rest", .int rest t1), ("column", .int col t2), ("runs", runs), ("row", .ref D), ("straight", st)] ((121, tab2 c d) :: R) s' → LBd prog w L fa 3 Q s') :
    LBd prog w L fa 2 Q s := by
  rw [← hyl] at hQ
  refine execs_cut 1 (fun s' => Box (∃ t3, LSt s0 g L c1 c2 c3 c4 c5 c6 (some (.int (ts : Int) tt)) [("last", .int (bisF (fun i => decide (col < indentF (wsB (stB n i)) ts)) 0 ysD.length : Int) t3), ("first", fv), ("rest", .int rest t1), ("column", .int col t2), ("runs", runs), ("row", .ref D), ("straight", st)] ((121, tab2 c d) :: R) s')) ?_ (fun s' ⟨t3, h2⟩ => hQ s' t3 h2)
  conv in (List.take _ _) => whnf
  simp only [List.take_zero]
  refine LSt.elim H ?_
  clear H
  intro h tk m o1 o2 o3 o4 o5 o6 o7 F N d1 d2 d3 d4 d5 d6 d7
  have l0' := ltN l0
  obtain ⟨oc5, vs5, tq5, hc1, hc2, hc3⟩ := hc
  obtain ⟨oc6, vs6, tq6, hd1, hd2, hd3⟩ := hd
  (try k_unmd); k_fold
  (try dsimp only)
  k_steps
  refine Box.in ?_
  rename Fr g L _ _ => F2
  rename News g L _ _ => N2
  have hD2 := @celL.mem L o1 o2 o3 o4 o5 o6 o7 _ _ (List.mem_cons_of_mem (121, tab1 0) hD)
  k_dflt (refine law_use (bisrk_spec _ _ _ _ _ _ _ _ D ysD ysD.length _ _ _ _ _ _ _ _ _ _ col (fun i => indentF (wsB (stB n i)) ts) t2 ?hm (.head _) ?hkey (by omega)) (by decide) B F2 X N2 T ?_)
  case hm => walk_at "mine mem"
  case hkey =>
    clear F2
    intro i v hv
    obtain ⟨xi, rfl, hw⟩ := hRow i v hv
    have hi : i < ysD.length := (List.getElem?_eq_some_iff.mp hv).1
    have hwi := hwl i (by omega)
    have hw0 := hw
    refine WsIn.elim hw ?_
    intro dx D8 D9 zs k0 k1 k2 k3 k4 t0 tn tt' tb y g1 g2 g3 g4 hZ
    ( refine FnOk.of_lam (.head _) (by walk_at "mine mem") (by assumption) (by assumption) rfl (locs rfl) (by decide) ?_ rfl rfl rfl (by decide); intro dp un gd cn cs a9 ccd cl outer base L9 g9 L8 h8 s8 tk8 F8 N8 B8 X8 T8 hd8 hu8; (try k_unmd); k_fold; k_steps; refine Box.in ?_; refine' FnOk.use (indent_spec _ _ _ _ _ _ _ _ _ _ _ _ ?y1 ?y2 ?x1 ?x2) ?B ?F ?X ?N ?T ?k ?d ?u ?_; (case B => k_asm); (case F => k_asm); (case X => k_asm); (case N => k_asm); (case T => k_asm); (case k => exact rfl); (case d => ktr_room); (case u => ktr_units); (case y1 => assumption); (case y2 => assumption); (case x1 => exact WsIn.mono (by assumption) (fun p hp => by walk_at "mine mem")); (case x2 => assumption); rintro v9 h9 tk9 n9 ⟨e9, t9, e8⟩ F9 N9; rw [e9] at N9; subst e8; exact RetV.intro F9 N9 ⟨rfl, _, rfl⟩)
  rintro v9 h9 tk9 n9 ⟨e9, t9, e8⟩ F9 N9
  rw [e9] at N9
  clear F2 N2
  subst e8
  (try dsimp only)
  k_steps
  refine Box.in ?_
  rename Fr g L _ _ => F2
  rename News g L _ _ => N2
  exact ⟨t9, LSt.intro F2 (News.tl N2) d1 d2 d3 d4 d5 d6 d7 (by kst_all)⟩
end
end Mine
local macro_rules | `(tactic| walk_at "mine pad") => `(tactic| skip)
local macro_rules | `(tactic| walk_at "mine pad") => `(tactic| skip)
local macro_rules | `(tactic| walk_at "mine pad") => `(tactic| skip)
local macro_rules | `(tactic| walk_at "mine pad") => `(tactic| skip)
open PySem PySem.W PyProof.Rows PySem.Calls
set_option maxRecDepth 100000
set_option maxHeartbeats 4000000
namespace Mine
section
local macro_rules | `(tactic| walk_at "binaryOp Mult int int") => `(tactic| (refine mul_int ?_ (IntMulOk.of_left (intBits_le_64 (by omega) (by omega)))))
theorem bd3 (prog : Program) (w : World) (p : Program) (loose : List Str) (mean : ExcName → Option Value) (mg mb : Str → Option Value) (g : Heap) (L fa : Addr) (s0 : Shared) (R : List (Addr × Obj)) (B : Below callerA g [] g) (X : (hd.heap_39 w.params).In g) (T : Top p loose mean mg mb g) (hO : Off L R) (Q : Flow → Shared → Prop) (s : Shared) (n cnt : Nat) (c1 c4 c5 c6 : Option Value) (ts : Nat) (tn tc tt t1 t2 t3 t4 : Tok) (h2 : 2 ≤ ts) (h20 : ts ≤ 20) (rest col fi la : Int) (runs row st : Value)
    (e1 : col = (n : Int) + ((ts : Int) - 1) * (cnt : Int) - rest) (e2 : fi = (cnt : Int) - Int.fdiv rest ((ts : Int) - 1)) (e3 : la = (cnt : Int) + 1 + Int.fdiv (-rest) ((ts : Int) - 1))
    (H : LSt s0 g L c1 (some (.int (n : Int) tn)) (some (.int (cnt : Int) tc)) c4 c5 c6 (some (.int (ts : Int) tt)) [("last", .int la t4), ("first", .int fi t3), ("rest", .int rest t1), ("column", .int col t2), ("runs", runs), ("row", row), ("straight", st)] R s)
    (hQ : ∀ s', LSt s0 g L c1 (some (.int (n : Int) tn)) (some (.int (cnt : Int) tc)) c4 c5 c6 (some (.int (ts : Int) tt)) [("last", .int la t4), ("runs", runs), ("row", row), ("straight", st)] R s' → LBd prog w L fa 4 Q s') :
    LBd prog w L fa 3 Q s := by
  w_top off
  refine execs_cut 1 (fun s' => Box (LSt s0 g L c1 (some (.int (n : Int) tn)) (some (.int (cnt : Int) tc)) c4 c5 c6 (some (.int (ts : Int) tt)) [("last", .int la t4), ("runs", runs), ("row", row), ("straight", st)] R s')) ?_ (fun s' h => hQ s' h)
  conv in (List.take _ _) => whnf
  simp only [List.take_zero]
  refine LSt.elim H ?_
  clear H
  intro h tk m o1 o2 o3 o4 o5 o6 o7 F N d1 d2 d3 d4 d5 d6 d7
  (try k_unmd); k_fold
  (try dsimp only)
  k_steps
  · refine Box.in ?_
    exact LSt.intro (by k_asm) (News.sub (by k_asm) (fun p hp => .tail _ (.tail _ hp))) d1 d2 d3 d4 d5 d6 d7 (by kst_all)
  · rename (_ && (_ && _)) = false => hb
    exfalso
    rw [← e1, ← e2, ← e3] at hb
    simp at hb
local macro_rules | `(tactic| k_all) => `(tactic| with_unfolding_all assumption)
local macro_rules | `(tactic| k_mem) => `(tactic| walk_at "mine mem")
theorem bd4 (prog : Program) (w : World) (p : Program) (loose : List Str) (mean : ExcName → Option Value) (mg mb : Str → Option Value) (g : Heap) (L fa : Addr) (s0 : Shared) (R : List (Addr × Obj)) (B : Below callerA g [] g) (X : (hd.heap_39 w.params).In g) (T : Top p loose mean mg mb g) (hO : Off L R) (Q : Flow → Shared → Prop) (s : Shared) (c1 c2 c3 c4 c6 c7 : Option Value) (t4 : Tok) (la : Int) (runs row st : Value) (Dl : Addr) (zs : List Value) (k : Nat) (hz : zs.length ≤ 20)
    (hOl : Off L ((Dl, W.listOf zs.toArray k) :: R)) (hl : ∀ p ∈ R, p.1 ≠ Dl)
    (H : LSt s0 g L c1 c2 c3 c4 (some (.ref Dl)) c6 c7 [("last", .int la t4), ("runs", runs), ("row", row), ("straight", st)] ((Dl, W.listOf zs.toArray k) :: R) s)
    (hQ : ∀ s' k', LSt s0 g L c1 c2 c3 c4 (some (.ref Dl)) c6 c7 [("runs", runs), ("row", row), ("straight", st)] ((Dl, W.listOf (zs ++ [Value.int la t4]).toArray k') :: R) s' → LBd prog w L fa 5 Q s') :
    LBd prog w L fa 4 Q s := by
  refine execs_cut 1 (fun s' => Box (∃ k', LSt s0 g L c1 c2 c3 c4 (some (.ref Dl)) c6 c7 [("runs", runs), ("row", row), ("straight", st)] ((Dl, W.listOf (zs ++ [Value.int la t4]).toArray k') :: R) s')) ?_ (fun s' ⟨k', h⟩ => hQ s' k' h)
  conv in (List.take _ _) => whnf
  simp only [List.take_zero]
  refine LSt.elim H ?_
  clear H
  intro h tk m o1 o2 o3 o4 o5 o6 o7 F N d1 d2 d3 d4 d5 d6 d7
  have hDl := hOl _ (.head _)
  dsimp only at hDl
  (try k_unmd); k_fold
  (try dsimp only)
  k_steps
  refine Box.in ?_
  rename Fr g L _ _ => F2
  rename News g L _ _ => N2
  rw [List.push_toArray] at N2
  exact ⟨_, LSt.intro F2 N2 d1 d2 d3 d4 d5 d6 d7 (by kst_all)⟩
end
end Mine
local macro_rules | `(tactic| walk_at "mine pad") => `(tactic| skip)
local macro_rules | `(tactic| walk_at "mine pad") => `(tactic| skip)
local macro_rules | `(tactic| walk_at "mine pad") => `(tactic| skip)
local macro_rules | `(tactic| walk_at "mine pad") => `(tactic| skip)
open PySem PySem.W PyProof.Rows PySem.Calls
set_option maxRecDepth 100000
set_option maxHeartbeats 4000000
namespace Mine
theorem LSt.sub {s s' : Shared} {g : Heap} {L : Addr} {c1 c2 c3 c4 c5 c6 c7 : Option Value} {ps : List (Str × Value)} {V R : List (Addr × Obj)} (H : LSt s g L c1 c2 c3 c4 c5 c6 c7 ps R s') (h : ∀ p ∈ V, p ∈ R) : LSt s g L c1 c2 c3 c4 c5 c6 c7 ps V s' := by
  obtain ⟨h', tk, m, o1, o2, o3, o4, o5, o6, o7, e, F, N, d⟩ := H
  exact ⟨h', tk, m, o1, o2, o3, o4, o5, o6, o7, e, F, News.sub N (celL.sub h), d⟩
noncomputable def firstF (bs : List Bool) (n ts : Nat) : Nat := bisF (fun i => !decide (indentF (wsB (stB n i)) ts < indentF (wsB bs) ts)) 0 (n + 1)
noncomputable def lastF (bs : List Bool) (n ts : Nat) : Nat := bisF (fun i => decide (indentF (wsB bs) ts < indentF (wsB (stB n i)) ts)) 0 (n + 1)
theorem celL.own {L : Addr} {o1 o2 o3 o4 o5 o6 o7 : Obj} {a b : Addr × Obj} {V R own : List (Addr × Obj)} : ∀ p ∈ celL L o1 o2 o3 o4 o5 o6 o7 (b :: a :: (V ++ (R ++ own))), p ∈ celL L o1 o2 o3 o4 o5 o6 o7 (a :: b :: (V ++ R)) ++ own := fun p hp =>
  (celL.iff.mp hp).elim (fun e => List.mem_append_left _ (celL.iff.mpr (.inl e))) fun e => (List.mem_cons.mp e).elim (fun e => e ▸ List.mem_append_left _ (celL.mem (.tail _ (.head _)))) fun e => (List.mem_cons.mp e).elim (fun e => e ▸ List.mem_append_left _ (celL.mem (.head _)))
    fun e => (List.mem_append.mp e).elim (fun e => List.mem_append_left _ (celL.mem (.tail _ (.tail _ (List.mem_append_left _ e))))) fun e => (List.mem_append.mp e).elim (fun e => List.mem_append_left _ (celL.mem (.tail _ (.tail _ (List.mem_append_right _ e))))) fun e => List.mem_append_right _ e
theorem celL.offI {L I : Nat} {o1 o2 o3 o4 o5 o6 o7 : Obj} {R : List (Addr × Obj)} (h : ∀ p ∈ celL L o1 o2 o3 o4 o5 o6 o7 R, p.1 ≠ I) : (@LE.le Nat _ I L) ∨ (@LT.lt Nat _ (L + 7) I) := by
  have h7 : @Ne Nat _ I := h _ (.head _)
  have h6 : @Ne Nat _ I := h _ (.tail _ (.head _))
  have h5 : @Ne Nat _ I := h _ (.tail _ (.tail _ (.head _)))
  have h4 : @Ne Nat _ I := h _ (.tail _ (.tail _ (.tail _ (.head _))))
  have h3 : @Ne Nat _ I := h _ (.tail _ (.tail _ (.tail _ (.tail _ (.head _)))))
  have h2 : @Ne Nat _ I := h _ (.tail _ (.tail _ (.tail _ (.tail _ (.tail _ (.head _))))))
  have h1 : @Ne Nat _ I := h _ (.tail _ (.tail _ (.tail _ (.tail _ (.tail _ (.tail _ (.head _)))))))
  dsimp only at h1 h2 h3 h4 h5 h6 h7
  omega
structure LoopSt where
  o1 : Obj
  o2 : Obj
  o3 : Obj
  o4 : Obj
  o5 : Obj
  o6 : Obj
  o7 : Obj
  zs : List Value
  k : Nat
  tps : Array Value
  V : List (Addr × Obj)
section
theorem celL.ne_all {L I : Addr} {o1 o2 o3 o4 o5 o6 o7 o1' o2' o3' o4' o5' o6' o7' : Obj} {V W : List (Addr × Obj)} (h : ∀ p ∈ celL L o1 o2 o3 o4 o5 o6 o7 V, p.1 ≠ I) (hW : ∀ p ∈ W, p.1 ≠ I) : ∀ p ∈ celL L o1' o2' o3' o4' o5' o6' o7' W, p.1 ≠ I := by
  refine List.forall_mem_cons.mpr ⟨h (_, o7) (.head _), List.forall_mem_cons.mpr ⟨h (_, o6) (.tail _ (.head _)), List.forall_mem_cons.mpr ⟨h (_, o5) (.tail _ (.tail _ (.head _))), List.forall_mem_cons.mpr ⟨h (_, o4) (.tail _ (.tail _ (.tail _ (.head _)))), List.forall_mem_cons.mpr ⟨h (_, o3) (.tail _ (.tail _ (.tail _ (.tail _ (.head _))))), List.forall_mem_cons.mpr ⟨h (_, o2) (.tail _ (.tail _ (.tail _ (.tail _ (.tail _ (.head _)))))), List.forall_mem_cons.mpr ⟨h (_, o1) (.tail _ (.tail _ (.tail _ (.tail _ (.tail _ (.tail _ (.head _))))))), hW⟩⟩⟩⟩⟩⟩⟩
theorem celL.back {L : Addr} {o1 o2 o3 o4 o5 o6 o7 : Obj} {a b : Addr × Obj} {U V R own : List (Addr × Obj)} : ∀ p ∈ celL L o1 o2 o3 o4 o5 o6 o7 (a :: b :: (U ++ V ++ R)) ++ own, p ∈ celL L o1 o2 o3 o4 o5 o6 o7 (a :: b :: (U ++ (V ++ (R ++ own)))) := fun p hp => by
  have e : celL L o1 o2 o3 o4 o5 o6 o7 (a :: b :: (U ++ (V ++ (R ++ own)))) = celL L o1 o2 o3 o4 o5 o6 o7 (a :: b :: (U ++ V ++ R)) ++ own := by
    show _ = celL L o1 o2 o3 o4 o5 o6 o7 (a :: b :: (U ++ V ++ R ++ own))
    rw [List.append_assoc, List.append_assoc]
  rw [e]; exact hp
theorem body20 (prog : Program) (w : World) (p : Program) (loose : List Str) (mean : ExcName → Option Value) (mg mb : Str → Option Value) (g : Heap) (L fa : Addr) (s0 : Shared) (R : List (Addr × Obj)) (B : Below callerA g [] g) (X : (hd.heap_39 w.params).In g) (T : Top p loose mean mg mb g) (hO : Off L R) (Q : Flow → Shared → Prop) (C : CodeHd g 123 121) (l0 : 121 < L) (s : Shared) (bs : List Bool) (n cnt : Nat) (hb : bs.length ≤ 6) (hn : n ≤ 6) (c1 c6 : Option Value) (x : Addr) (tn tc tt : Tok) (ts : Nat) (h2 : 2 ≤ ts) (h20 : ts ≤ 20) (st : Value) (Dr D Dl : Addr) (ysr ysD zs : List Value) (k : Nat) (tps : Array Value)
    (hr : (Dr, LCg.lst ysr) ∈ R) (hI : IntsAre ysr (runsF bs)) (hx : WsIn w.params R x (wsB bs)) (hrl : (runsF bs).length ≤ 20) (hwb : (wsB bs).count.length ≤ 20)
    (hyl : ysD.length = n + 1) (hwl : ∀ j, j ≤ n → (wsB (stB n j)).count.length ≤ 20) (hD : (D, LCg.lst ysD) ∈ R) (hRow : WsRow w.params R (fun j => wsB (stB n j)) ysD)
    (h121 : ∀ p ∈ R, p.1 ≠ 121) (hDl : ∀ p ∈ R, p.1 ≠ Dl) (hl1 : Dl ≠ 121) (hz : zs.length ≤ 20) (hOl : (@LE.le Nat _ Dl L) ∨ (@LT.lt Nat _ (L + 7) Dl))
    (S : List (Addr × Obj)) (hS : ∀ p ∈ S, p ∈ R) (htab : tps = #[] ∨ ∃ c d, tps = #[rawInt 184, rawInt 45, .ref c, rawInt 185, rawInt 45, .ref d] ∧ LamCode L fa c S ∧ LamCode L fa d S)
    (e1 : indentF (wsB bs) ts = (n : Int) + ((ts : Int) - 1) * (cnt : Int) - restF bs ts) (e2 : (firstF bs n ts : Int) = (cnt : Int) - Int.fdiv (restF bs ts) ((ts : Int) - 1)) (e3 : (lastF bs n ts : Int) = (cnt : Int) + 1 + Int.fdiv (-restF bs ts) ((ts : Int) - 1))
    (H : LSt s0 g L c1 (some (.int (n : Int) tn)) (some (.int (cnt : Int) tc)) (some (.ref x)) (some (.ref Dl)) c6 (some (.int (ts : Int) tt)) [("runs", .ref Dr), ("row", .ref D), ("straight", st)] ((121, tabObj tps) :: (Dl, W.listOf zs.toArray k) :: R) s)
    (hQ : ∀ s' V k' t4 c d, LamCode L fa c (V ++ S) → LamCode L fa d (V ++ S) → NewCode L V ((Dl, W.listOf zs.toArray k) :: R) → LSt s0 g L c1 (some (.int (n : Int) tn)) (some (.int (cnt : Int) tc)) (some (.ref x)) (some (.ref Dl)) c6 (some (.int (ts : Int) tt)) [("runs", .ref Dr), ("row", .ref D), ("straight", st)] ((Dl, W.listOf (zs ++ [Value.int (lastF bs n ts : Int) t4]).toArray k') :: (121, tab2 c d) :: (V ++ R)) s' → LBd prog w L fa 5 Q s') :
    LBd prog w L fa 0 Q s := by
  have l0' := ltN l0
  have hO2 : Off L ((Dl, W.listOf zs.toArray k) :: R) := Off.cons hOl hO
  have hO1 : Off L ((121, tabObj tps) :: (Dl, W.listOf zs.toArray k) :: R) := Off.cons (.inl (Nat.le_of_lt l0)) hO2
  have h121' : ∀ p ∈ (Dl, W.listOf zs.toArray k) :: R, p.1 ≠ 121 := List.forall_mem_cons.mpr ⟨hl1, h121⟩
  -- the last two statements
  have tail : ∀ s' V t1 t2 t3 t4 c d, LamCode L fa c (V ++ S) → LamCode L fa d (V ++ S) → NewCode L V ((Dl, W.listOf zs.toArray k) :: R) → LSt s0 g L c1 (some (.int (n : Int) tn)) (some (.int (cnt : Int) tc)) (some (.ref x)) (some (.ref Dl)) c6 (some (.int (ts : Int) tt)) [("last", .int (lastF bs n ts : Int) t4), ("first", .int (firstF bs n ts : Int) t3), ("rest", .int (restF bs ts) t1), ("column", .int (indentF (wsB bs) ts) t2), ("runs", .ref Dr), ("row", .ref D), ("straight", st)] ((121, tab2 c d) :: (V ++ ((Dl, W.listOf zs.toArray k) :: R))) s' → LBd prog w L fa 3 Q s' := by
    intro s' V t1 t2 t3 t4 c d hc hd hV H3
    have hO3 : Off L ((121, tab2 c d) :: (V ++ ((Dl, W.listOf zs.toArray k) :: R))) := Off.cons (.inl (Nat.le_of_lt l0)) (Off.append (fun p hp => .inr (hV p hp).1) hO2)
    refine bd3 prog w p loose mean mg mb g L fa s0 _ B X T hO3 Q s' n cnt _ _ _ _ ts _ _ _ t1 t2 t3 t4 h2 h20 _ _ _ _ _ _ _ e1 e2 e3 H3 ?_
    intro s4 H4
    have H4' := LSt.sub (V := (Dl, W.listOf zs.toArray k) :: (121, tab2 c d) :: (V ++ R)) H4 (fun p hp => by
      simp only [List.mem_cons, List.mem_append] at hp ⊢
      rcases hp with e | e | e | e <;> simp [e])
    refine bd4 prog w p loose mean mg mb g L fa s0 _ B X T ?_ Q s4 _ _ _ _ _ _ t4 _ _ _ _ Dl zs k hz ?_ ?_ H4' ?_
    · exact Off.cons (.inl (Nat.le_of_lt l0)) (Off.append (fun p hp => .inr (hV p hp).1) hO)
    · exact Off.cons hOl (Off.cons (.inl (Nat.le_of_lt l0)) (Off.append (fun p hp => .inr (hV p hp).1) hO))
    · refine List.forall_mem_cons.mpr ⟨fun e => hl1 e.symm, fun p hp => ?_⟩
      rcases List.mem_append.mp hp with hp | hp
      · exact Nat.ne_of_gt ((hV p hp).2.2 _ (.head _))
      · exact hDl p hp
    · intro s5 k' H5
      exact hQ s5 V k' t4 c d hc hd hV H5
  refine bd0 prog w p loose mean mg mb g L fa s0 _ B X T hO1 Q s bs _ _ _ _ _ x ts tt hb h2 h20 _ _ Dr ysr (.tail _ (.tail _ hr)) hI (hx.mono fun p hp => .tail _ (.tail _ hp)) hrl hwb H ?_
  intro s1 t1 t2 H1
  rcases htab with rfl | ⟨c, d, rfl, hc, hd⟩
  · refine bd1a prog w p loose mean mg mb g L fa s0 _ B X T hO2 Q C l0 s1 n _ _ _ _ _ _ ts tt t1 t2 h2 h20 _ _ _ _ D ysD h121' hyl hn hwl (.tail _ hD) (hRow.mono fun p hp => .tail _ hp) H1 ?_
    rintro s2 c V1 t3 ⟨hc, hV1⟩ H2
    refine bd2a prog w p loose mean mg mb g L fa s0 _ B X T (Off.append (fun p hp => .inr (hV1 p hp).1) hO2) Q C l0 s2 n _ _ _ _ _ _ ts tt t1 t2 h2 h20 _ _ _ _ _ D ysD ?_ hyl hn hwl (List.mem_append_right _ (.tail _ hD)) (hRow.mono fun p hp => List.mem_append_right _ (.tail _ hp)) c (hc.mono fun p hp => List.mem_append_left _ hp) H2 ?_
    · intro p hp
      rcases List.mem_append.mp hp with hp | hp
      · exact Nat.ne_of_gt (hV1 p hp).2.1
      · exact h121' p hp
    rintro s3 d V2 t4 ⟨hd, hV2⟩ H3
    refine tail s3 (V2 ++ V1) t1 t2 t3 t4 c d (hc.mono fun p hp => List.mem_append_left _ (List.mem_append_right _ hp)) (hd.mono fun p hp => List.mem_append_left _ (List.mem_append_left _ hp)) ?_ ?_
    · intro p hp
      rcases List.mem_append.mp hp with hp | hp
      · exact ⟨(hV2 p hp).1, (hV2 p hp).2.1, fun q hq => (hV2 p hp).2.2 q (List.mem_append_right _ hq)⟩
      · exact hV1 p hp
    · rw [List.append_assoc]; exact H3
  · refine bd1b prog w p loose mean mg mb g L fa s0 _ B X T hO2 Q C l0 s1 n _ _ _ _ _ _ ts tt t1 t2 h2 h20 _ _ _ _ D ysD h121' hyl hn hwl (.tail _ hD) (hRow.mono fun p hp => .tail _ hp) c d (hc.mono fun p hp => .tail _ (hS p hp)) (hd.mono fun p hp => .tail _ (hS p hp)) H1 ?_
    intro s2 t3 H2
    refine bd2b prog w p loose mean mg mb g L fa s0 _ B X T hO2 Q C l0 s2 n _ _ _ _ _ _ ts tt t1 t2 h2 h20 _ _ _ _ _ D ysD h121' hyl hn hwl (.tail _ hD) (hRow.mono fun p hp => .tail _ hp) c d (hc.mono fun p hp => .tail _ (hS p hp)) (hd.mono fun p hp => .tail _ (hS p hp)) H2 ?_
    intro s3 t4 H3
    exact tail s3 [] t1 t2 t3 t4 c d hc hd (fun _ h => nomatch h) H3
local macro_rules | `(tactic| walk_at "exec For Name Call cons nil") => `(tactic| (k_here; (rename Fr _ _ _ _ => lF'); (with_unfolding_all refine' For_turns lF' ?_); k_whole))
local macro_rules | `(tactic| walk_at "pyIter ref") => `(tactic| refine Box.out ?_)
theorem seg20 (prog : Program) (w : World) (p : Program) (loose : List Str) (mean : ExcName → Option Value) (mg mb : Str → Option Value) (g : Heap) (L fa : Addr) (s0 : Shared) (R : List (Addr × Obj)) (B : Below callerA g [] g) (X : (hd.heap_39 w.params).In g) (T : Top p loose mean mg mb g) (hO : Off L R) (Q : Flow → Shared → Prop) (C : CodeHd g 123 121) (l0 : 121 < L) (s : Shared) (bs : List Bool) (n cnt : Nat) (hb : bs.length ≤ 6) (hn : n ≤ 6) (c1 c6 : Option Value) (x : Addr) (tn tc : Tok) (st : Value) (Dr D Dl : Addr) (ysr ysD : List Value)
    (hr : (Dr, LCg.lst ysr) ∈ R) (hI : IntsAre ysr (runsF bs)) (hx : WsIn w.params R x (wsB bs)) (hrl : (runsF bs).length ≤ 20) (hwb : (wsB bs).count.length ≤ 20)
    (hyl : ysD.length = n + 1) (hwl : ∀ j, j ≤ n → (wsB (stB n j)).count.length ≤ 20) (hD : (D, LCg.lst ysD) ∈ R) (hRow : WsRow w.params R (fun j => wsB (stB n j)) ysD)
    (h121 : ∀ p ∈ R, p.1 ≠ 121) (hDl : ∀ p ∈ R, p.1 ≠ Dl) (hl1 : Dl ≠ 121) (hOl : (@LE.le Nat _ Dl L) ∨ (@LT.lt Nat _ (L + 7) Dl))
    (hfact : ∀ ts, 2 ≤ ts → ts ≤ n + 1 → indentF (wsB bs) ts = (n : Int) + ((ts : Int) - 1) * (cnt : Int) - restF bs ts ∧ (firstF bs n ts : Int) = (cnt : Int) - Int.fdiv (restF bs ts) ((ts : Int) - 1) ∧ (lastF bs n ts : Int) = (cnt : Int) + 1 + Int.fdiv (-restF bs ts) ((ts : Int) - 1))
    (H : LSt s0 g L c1 (some (.int (n : Int) tn)) (some (.int (cnt : Int) tc)) (some (.ref x)) (some (.ref Dl)) c6 none [("runs", .ref Dr), ("row", .ref D), ("straight", st)] ((Dl, W.listOf ([] : List Value).toArray 0) :: (121, tabObj #[]) :: R) s)
    (hQ : ∀ s' zs k tps V c7, IntsAre zs ((List.range n).map fun i => (lastF bs n (2 + i) : Int)) → Off L ((Dl, W.listOf zs.toArray k) :: (121, tabObj tps) :: (V ++ R)) → LSt s0 g L c1 (some (.int (n : Int) tn)) (some (.int (cnt : Int) tc)) (some (.ref x)) (some (.ref Dl)) c6 c7 [("row", .ref D), ("straight", st)] ((Dl, W.listOf zs.toArray k) :: (121, tabObj tps) :: (V ++ R)) s' → LSeg prog w L fa 21 Q s') :
    LSeg prog w L fa 20 Q s := by
  w_top off
  refine execs_cut 1 (fun s' => Box (∃ zs k tps V c7, IntsAre zs ((List.range n).map fun i => (lastF bs n (2 + i) : Int)) ∧ Off L ((Dl, W.listOf zs.toArray k) :: (121, tabObj tps) :: (V ++ R)) ∧ LSt s0 g L c1 (some (.int (n : Int) tn)) (some (.int (cnt : Int) tc)) (some (.ref x)) (some (.ref Dl)) c6 c7 [("row", .ref D), ("straight", st)] ((Dl, W.listOf zs.toArray k) :: (121, tabObj tps) :: (V ++ R)) s')) ?_ (fun s' ⟨zs, k, tps, V, c7, h1, h2, h3⟩ => hQ s' zs k tps V c7 h1 h2 h3)
  conv in (List.take _ _) => whnf
  simp only [List.take_zero]
  refine LSt.elim H ?_
  clear H
  intro h tk m o1 o2 o3 o4 o5 o6 o7 F N d1 d2 d3 d4 d5 d6 d7
  (try k_unmd); k_fold
  (try dsimp only)
  k_steps
  refine Box.in ?_
  rename IsRange _ _ _ _ _ _ _ _ => hR
  rename News g L _ _ => N1
  rename Fr g L _ _ => F1
  refine turnsRange (σ := LoopSt) (n := n) (fun _ _ => [("runs", .ref Dr), ("row", .ref D), ("straight", st)]) (fun _ c => celL L c.o1 c.o2 c.o3 c.o4 c.o5 c.o6 c.o7 ((Dl, W.listOf c.zs.toArray c.k) :: (121, tabObj c.tps) :: (c.V ++ R)))
    (fun i c => (c.o1.data = .cell c1 ∧ c.o2.data = .cell (some (.int (n : Int) tn)) ∧ c.o3.data = .cell (some (.int (cnt : Int) tc)) ∧ c.o4.data = .cell (some (.ref x)) ∧ c.o5.data = .cell (some (.ref Dl)) ∧ c.o6.data = .cell c6 ∧ ∃ c7, c.o7.data = .cell c7) ∧ IntsAre c.zs ((List.range i).map fun i => (lastF bs n (2 + i) : Int)) ∧
      (c.tps = #[] ∨ ∃ a d, c.tps = #[rawInt 184, rawInt 45, .ref a, rawInt 185, rawInt 45, .ref d] ∧ LamCode L fa a (c.V ++ R) ∧ LamCode L fa d (c.V ++ R)) ∧ (∀ p ∈ c.V, (@LT.lt Nat _ (L + 7) p.1) ∧ p.1 ≠ 121 ∧ p.1 ≠ Dl))
    ⟨o1, o2, o3, o4, o5, o6, o7, [], 0, #[], []⟩ rfl hR (small_one (by omega) (by omega) (by omega) (by omega)) (by rw [rangeSize_one]; split <;> omega) F1 N1 ⟨⟨d1, d2, d3, d4, d5, d6, _, d7⟩, .nil, .inl rfl, fun _ h => nomatch h⟩ ?turn ?done
  case turn =>
    k_sweep
    clear hR d1 d2 d3 d4 d5 d6 d7
    rintro i ⟨o1, o2, o3, o4, o5, o6, o7, zs, k, tps, V⟩ t m1 h1 tk1 own I hi ⟨⟨d1, d2, d3, d4, d5, d6, c7, d7⟩, hZ, htab, hV⟩ hoff ⟨⟨oI, hoI⟩, hown⟩ F1 N1
    dsimp only at d1 d2 d3 d4 d5 d6 d7 hZ htab hV hoff F1 N1
    have hzl := hZ.length
    rw [List.length_map, List.length_range] at hzl
    rw [show (2 : Int) + (i : Int) = ((2 + i : Nat) : Int) by omega]
    have hI121 : I ≠ 121 := fun e => hoff _ (celL.mem (.tail _ (.head _))) e.symm
    have hIDl : I ≠ Dl := fun e => hoff _ (celL.mem (.head _)) e.symm
    have hIL := celL.offI hoff
    have hOV : Off L (V ++ (R ++ own)) := Off.append (fun p hp => .inr (hV p hp).1) (Off.append hO (fun p hp => by rw [hown p hp]; exact hIL))
    have N2 := News.sub N1 (celL.own (a := (Dl, W.listOf zs.toArray k)) (b := (121, tabObj tps)))
    refine wpAny_assign_Name (st_tab F1 N2 (Off.cons (.inl (Nat.le_of_lt l0)) (Off.cons hOl hOV)) d7 ?_)
    clear F1 N1 N2 d7
    intro h2 o7 F2 N2 d7
    obtain ⟨e1, e2, e3⟩ := hfact (2 + i) (by omega) (by omega)
    refine body20 prog w p loose mean mg mb g L fa s0 (V ++ (R ++ own)) B X T hOV _ C l0 _ bs n cnt hb hn c1 c6 x tn tc t (2 + i) (by omega) (by omega) st Dr D Dl ysr ysD zs k tps
      (List.mem_append_right _ (List.mem_append_left _ hr)) hI (hx.mono fun p hp => List.mem_append_right _ (List.mem_append_left _ hp)) hrl hwb hyl hwl (List.mem_append_right _ (List.mem_append_left _ hD)) (hRow.mono fun p hp => List.mem_append_right _ (List.mem_append_left _ hp))
      (fun p hp => by
        rcases List.mem_append.mp hp with hp | hp
        · exact (hV p hp).2.1
        · rcases List.mem_append.mp hp with hp | hp
          · exact h121 p hp
          · rw [hown p hp]; exact hI121)
      (fun p hp => by
        rcases List.mem_append.mp hp with hp | hp
        · exact (hV p hp).2.2
        · rcases List.mem_append.mp hp with hp | hp
          · exact hDl p hp
          · rw [hown p hp]; exact hIDl) hl1 (by omega) hOl
      (V ++ R) (by simp only [List.mem_append]; intro p hp; rcases hp with h | h <;> simp [h]) htab
      e1 e2 e3 (LSt.intro F2 N2 d1 d2 d3 d4 d5 d6 d7 (by kst_all)) ?_
    intro s5 V2 k5 t5 ca da hca hda hV2 H5
    obtain ⟨h5, tk5, m5, q1, q2, q3, q4, q5, q6, q7, rfl, F5, N5, g1, g2, g3, g4, g5, g6, g7⟩ := H5
    have e5 : loopB.drop 5 = [] := by with_unfolding_all rfl
    show wpAny _ _ (execs (loopB.drop 5) _) _ _ _
    rw [e5]
    refine wpAny_execs_nil ?_
    refine Box.in ⟨⟨q1, q2, q3, q4, q5, q6, q7, _, k5, _, V2 ++ V⟩, ⟨⟨g1, g2, g3, g4, g5, g6, _, g7⟩, ?_, .inr ⟨ca, da, rfl, ?_, ?_⟩, ?_⟩, ?_, h5, tk5, m5, rfl, F5, News.sub N5 celL.back⟩
    · dsimp only
      rw [List.range_succ, List.map_append]
      exact hZ.append (.cons _ _ .nil)
    · dsimp only; rw [List.append_assoc]; exact hca
    · dsimp only; rw [List.append_assoc]; exact hda
    · intro p hp
      rcases List.mem_append.mp hp with hp | hp
      · exact ⟨(hV2 p hp).1, Nat.ne_of_gt (hV2 p hp).2.1, Nat.ne_of_gt ((hV2 p hp).2.2 _ (.head _))⟩
      · exact hV p hp
    · refine celL.ne_all hoff (List.forall_mem_cons.mpr ⟨fun e => hIDl e.symm, List.forall_mem_cons.mpr ⟨fun e => hI121 e.symm, fun p hp => ?_⟩⟩)
      rcases List.mem_append.mp hp with hp | hp
      · rcases List.mem_append.mp hp with hp | hp
        · exact Nat.ne_of_gt ((hV2 p hp).2.2 _ (.tail _ (List.mem_append_right _ (List.mem_append_right _ hoI))))
        · exact hoff p (celL.mem (.tail _ (.tail _ (List.mem_append_left _ hp))))
      · exact hoff p (celL.mem (.tail _ (.tail _ (List.mem_append_right _ hp))))
  case done =>
    k_sweep
    clear hR d1 d2 d3 d4 d5 d6 d7
    rintro ⟨o1, o2, o3, o4, o5, o6, o7, zs, k, tps, V⟩ m1 h1 tk1 ⟨⟨d1, d2, d3, d4, d5, d6, c7, d7⟩, hZ, htab, hV⟩ F1 N1
    dsimp only at d1 d2 d3 d4 d5 d6 d7 hZ htab hV F1 N1
    k_steps
    refine Box.in ?_
    exact ⟨zs, k, tps, V, c7, hZ, Off.cons hOl (Off.cons (.inl (Nat.le_of_lt l0)) (Off.append (fun p hp => .inr (hV p hp).1) hO)), LSt.intro F1 N1 d1 d2 d3 d4 d5 d6 d7 (by kst_all)⟩
end
end Mine
local macro_rules | `(tactic| walk_at "mine pad") => `(tactic| skip)
local macro_rules | `(tactic| walk_at "mine pad") => `(tactic| skip)
local macro_rules | `(tactic| walk_at "mine pad") => `(tactic| skip)
open PySem PySem.W PyProof.Rows PySem.Calls
set_option maxRecDepth 100000
set_option maxHeartbeats 4000000
namespace Mine
theorem sp_tx : Str.ofString " " = tx [false] := by decide +kernel
theorem tx_get {bs : List Bool} {i : Nat} {b : Bool} (h : bs[i]? = some b) : (tx bs).cps[i]? = some (ch b) := by
  show ((bs.map ch).toArray)[i]? = _
  rw [List.getElem?_toArray, List.getElem?_map, h]; rfl
theorem tx_end (bs : List Bool) : (tx bs).cps[bs.length]? = none := by
  show ((bs.map ch).toArray)[bs.length]? = _
  rw [List.getElem?_toArray, List.getElem?_eq_none (by simp)]
theorem tx_size (bs : List Bool) : bs.length ≤ (tx bs).cps.size := by
  show _ ≤ ((bs.map ch).toArray).size
  simp
theorem bo_carried : ∀ bs : List Bool, CarriedAll (bs.map Value.bool) (bs.map PyData.bool)
  | [] => .nil
  | b :: r => .cons (.bool b) (bo_carried r)
theorem bo_canLay : ∀ bs : List Bool, PyData.canLayAll0 (bs.map PyData.bool) = true
  | [] => rfl
  | _ :: r => by simp [PyData.canLayAll0, PyData.canLay0, bo_canLay r]
theorem bo_depth : ∀ bs : List Bool, PyData.depthAll (bs.map PyData.bool) = 0
  | [] => rfl
  | _ :: r => by simp [PyData.depthAll, PyData.depth, bo_depth r]
theorem bo_shaped (bs : List Bool) : SeqAt.shaped (.list (bs.map PyData.bool)) = true := by
  simp [SeqAt.shaped, PyData.canLay0, PyData.depth, bo_canLay, bo_depth]
section
variable {prog : Program} {w : World} {A : Around} {E : Value → Shared → Prop} {s : Shared} {a b : Addr} {bs : List Bool} {Q : Value → Shared → Prop}
theorem eq_bools (ha : s.heap.IsList a (bs.map Value.bool).toArray) (hb : s.heap.IsList b (bs.map Value.bool).toArray) (hu : A.units + 64 < cLine) (h : Q (.bool true) s) :
    wpAny (model prog w) A (compareOp .Eq (.ref a) (.ref b)) Q E s :=
  eq_dataH_same (reads_newData ha (bo_carried bs)) (reads_newData hb (bo_carried bs)) (bo_shaped _) (bo_shaped _) hu (SeqAt.noMix_of_shape (.list .bool) rfl _ _ (list_map_has fun _ => rfl) (list_map_has fun _ => rfl)) (by rw [PySem.Spec.same_self]; exact h)
theorem ne_bools (ha : s.heap.IsList a (bs.map Value.bool).toArray) (hb : s.heap.IsList b (bs.map Value.bool).toArray) (hu : A.units + 64 < cLine) (h : Q (.bool false) s) :
    wpAny (model prog w) A (compareOp .NotEq (.ref a) (.ref b)) Q E s :=
  ne_dataH_same (reads_newData ha (bo_carried bs)) (reads_newData hb (bo_carried bs)) (bo_shaped _) (bo_shaped _) hu (SeqAt.noMix_of_shape (.list .bool) rfl _ _ (list_map_has fun _ => rfl) (list_map_has fun _ => rfl)) (by rw [PySem.Spec.same_self]; exact h)
end
theorem bools_map {n : Nat} {f : Nat → Bool} {ys : List Value} (hl : ys.length = n) (h : ∀ (i : Nat) y, ys[i]? = some y → y = Value.bool (f i)) : ys = ((List.range n).map f).map Value.bool := by
  apply List.ext_getElem?
  intro i
  cases e : ys[i]? with
  | none =>
    have := List.getElem?_eq_none_iff.mp e
    rw [eq_comm, List.getElem?_eq_none_iff]; simp; omega
  | some y =>
    have hi := (List.getElem?_eq_some_iff.mp e).1
    rw [h i y e]; simp [show i < n by omega]
section
local macro_rules | `(tactic| walk_at "storeName") => `(tactic| refine Box.out ?_)
local macro_rules | `(tactic| walk_at "call ref") => `(tactic| refine Box.out ?_)
theorem seg21 (prog : Program) (w : World) (p : Program) (loose : List Str) (mean : ExcName → Option Value) (mg mb : Str → Option Value) (g : Heap) (L fa : Addr) (s0 : Shared) (R : List (Addr × Obj)) (B : Below callerA g [] g) (X : (hd.heap_39 w.params).In g) (T : Top p loose mean mg mb g) (hO : Off L R) (Q : Flow → Shared → Prop) (s : Shared) (bs : List Bool) (c2 c3 c4 c5 c7 : Option Value) (t1 : Tok) (hn : bs.length ≤ 6) (row st : Value)
    (H : LSt s0 g L (some (.str (tx bs) t1)) c2 c3 c4 c5 none c7 [("row", row), ("straight", st)] R s)
    (hQ : ∀ s' x W, WsIn w.params W x (wsB (bs ++ [false])) → Off L (W ++ R) → LSt s0 g L (some (.str (tx bs) t1)) c2 c3 c4 c5 (some (.ref x)) c7 [("row", row), ("straight", st)] (W ++ R) s' → LSeg prog w L fa 22 Q s') :
    LSeg prog w L fa 21 Q s := by
  w_top off
  refine execs_cut 1 (fun s' => Box (∃ x W, WsIn w.params W x (wsB (bs ++ [false])) ∧ Off L (W ++ R) ∧ LSt s0 g L (some (.str (tx bs) t1)) c2 c3 c4 c5 (some (.ref x)) c7 [("row", row), ("straight", st)] (W ++ R) s')) ?_ (fun s' ⟨x, W, h1, h2, h3⟩ => hQ s' x W h1 h2 h3)
  conv in (List.take _ _) => whnf
  simp only [List.take_zero]
  refine LSt.elim H ?_
  clear H
  intro h tk m o1 o2 o3 o4 o5 o6 o7 F N d1 d2 d3 d4 d5 d6 d7
  have la := tx_len bs
  (try k_unmd); k_fold
  (try dsimp only)
  k_steps
  refine Box.in ?_
  rw [sp_tx, tx_append]
  refine law_use (ws_spec _ _ _ _ _ _ _ _ _ _ (bs ++ [false]) (by rw [tx_len, List.length_append]; show _ + 1 ≤ 20; omega) (fun i b h => tx_get h) (fun k h => by
    rw [tx_end] at h
    cases h) (tx_size _)) (by decide) B F X N T ?_
  rintro v9 h9 tk9 n9 ⟨x, W, rfl, rfl, ⟨hc, hf⟩, hW⟩ F9 N9
  have hO9 := Off.fresh hf hO
  replace N9 := News.swapA N9
  clear F N
  k_steps
  refine Box.in ?_
  refine st_longer F9 N9 hO9 d6 ?_
  clear F9 N9
  intro h5 o5 F9 N9 d9
  (try dsimp only)
  k_steps
  refine Box.in ?_
  exact ⟨x, W, hW, hO9, LSt.intro F9 N9 d1 d2 d3 d4 d5 d9 d7 (by kst_all)⟩
noncomputable def mnF (bs : List Bool) (n : Nat) : Int := (((List.range n).map fun i => (lastF bs n (2 + i) : Int)).min?).getD 0
theorem mnF_is {bs : List Bool} {n : Nat} {M : Int} (h1 : M ∈ (List.range n).map fun i => (lastF bs n (2 + i) : Int)) (h2 : ∀ a ∈ (List.range n).map fun i => (lastF bs n (2 + i) : Int), M ≤ a) : M = mnF bs n := by
  have e : ((List.range n).map fun i => (lastF bs n (2 + i) : Int)).min? = some M := List.min?_eq_some_iff.mpr ⟨h1, h2⟩
  unfold mnF
  rw [e]; rfl
local macro_rules | `(tactic| walk_at "CompSrc") => `(tactic| refine Box.out ?_)
local macro_rules | `(tactic| walk_at "eval ListComp") => `(tactic| walk_at "mine comp")
local macro_rules | `(tactic| walk_at "call builtin:min") => `(tactic| refine Box.out ?_)
local macro_rules | `(tactic| walk_at "compareOp NotEq ref ref") => `(tactic| refine Box.out ?_)
local macro_rules | `(tactic| k_mem) => `(tactic| walk_at "mine mem")
theorem seg22 (prog : Program) (w : World) (p : Program) (loose : List Str) (mean : ExcName → Option Value) (mg mb : Str → Option Value) (g : Heap) (L fa : Addr) (s0 : Shared) (R : List (Addr × Obj)) (B : Below callerA g [] g) (X : (hd.heap_39 w.params).In g) (T : Top p loose mean mg mb g) (hO : Off L R) (Q : Flow → Shared → Prop) (s : Shared) (bs : List Bool) (n : Nat) (c1 c3 c4 c7 : Option Value) (tn : Tok) (hn : n ≤ 6) (hn1 : 1 ≤ n) (st : Value) (x D Dl : Addr) (ysD zs : List Value) (k : Nat)
    (hx : WsIn w.params R x (wsB (bs ++ [false]))) (hyl : ysD.length = n + 1) (hD : (D, LCg.lst ysD) ∈ R) (hRow : WsRow w.params R (fun j => wsB (stB n j)) ysD)
    (hDl : (Dl, W.listOf zs.toArray k) ∈ R) (hZ : IntsAre zs ((List.range n).map fun i => (lastF bs n (2 + i) : Int)))
    (hw1 : (wsB (bs ++ [false])).count.length ≤ 15 ∧ (wsB (bs ++ [false])).b ≤ 15) (hw2 : ∀ j, j ≤ n → (wsB (stB n j)).count.length ≤ 15 ∧ (wsB (stB n j)).b ≤ 15)
    (hless : ∀ j, j ≤ n → lessF (wsB (stB n j)) (wsB (bs ++ [false])) = decide ((j : Int) < mnF bs n))
    (H : LSt s0 g L c1 (some (.int (n : Int) tn)) c3 c4 (some (.ref Dl)) (some (.ref x)) c7 [("row", .ref D), ("straight", st)] R s)
    (hQ : ∀ s', LSt s0 g L c1 (some (.int (n : Int) tn)) c3 c4 (some (.ref Dl)) (some (.ref x)) c7 [("straight", st)] R s' → LSeg prog w L fa 23 Q s') :
    LSeg prog w L fa 22 Q s := by
  refine execs_cut 1 (fun s' => Box (LSt s0 g L c1 (some (.int (n : Int) tn)) c3 c4 (some (.ref Dl)) (some (.ref x)) c7 [("straight", st)] R s')) ?_ (fun s' h => hQ s' h)
  conv in (List.take _ _) => whnf
  simp only [List.take_zero]
  refine LSt.elim H ?_
  clear H
  intro h tk m o1 o2 o3 o4 o5 o6 o7 F N d1 d2 d3 d4 d5 d6 d7
  (try k_unmd); k_fold
  (try dsimp only)
  k_steps
  refine Box.in ?_
  refine src_list (vs := ysD) (k := ysD.length) (fun i y => y = .bool (decide ((i : Int) < mnF bs n))) (celL.mem hD) (by omega) rfl F N ?step ?fin
  case step =>
    clear F N
    intro i I oI C oC D' m2 h' tk' v ys E' hi hv hC hx' F' N' off ne
    obtain ⟨xi, rfl, hw⟩ := hRow i v hv
    have hw0 := hw
    refine WsIn.elim hw ?_
    intro dx D8 D9 zs k0 k1 k2 k3 k4 t0 tn tt' tb y g1 g2 g3 g4 hZ
    k_steps
    refine Box.in ?_
    have hi' : i ≤ n := by omega
    obtain ⟨a1, a2⟩ := hw2 i hi'
    refine law_use (less_spec _ _ _ _ _ _ _ _ xi x (wsB (stB n i)) (wsB (bs ++ [false])) (hw0.mono fun p hp => .tail _ (.tail _ (.tail _ (celL.mem hp)))) (hx.mono fun p hp => .tail _ (.tail _ (.tail _ (celL.mem hp)))) a1 hw1.1 a2 hw1.2) (by decide) B F' X N' T ?_
    rintro v9 h9 tk9 n9 ⟨e9, e8⟩ F9 N9
    rw [e9] at N9
    subst e8
    exact Box.in ⟨_, _, rfl, F9, N9, by rw [hless i hi']⟩
  case fin =>
    clear F N
    intro g' ys hl hV D' h' tk' F' N' q1
    k_steps
    refine Box.in ?_
    rename IsRange _ _ _ _ _ _ _ _ => hR
    rename Fr g L _ _ => F1
    rename News g L _ _ => N1
    refine src_range (n := n) (fun i y => y = .bool (decide ((i : Int) < mnF bs n))) hR (by omega) rfl F1 N1 ?step ?fin
    case step =>
      clear F1 N1 hR
      intro i I oI C oC D2 m2 h2 tk2 t2 ys2 E' hi hC hx' F' N' off ne
      have il := N'.isList (.tail _ (.tail _ (.tail _ (.tail _ (celL.mem hDl)))))
      k_steps
      refine Box.in ?_
      k_dflt (refine kso_min F' N' il hZ (by simp; omega) rfl ?_)
      clear F' N' il
      intro h3 M t3 tk3 F' N' hM1 hM2
      obtain rfl := mnF_is hM1 hM2
      (try dsimp only)
      k_steps
      refine Box.in ?_
      exact ⟨_, _, rfl, by k_asm, by k_asm, rfl⟩
    case fin =>
      clear F1 N1 hR
      intro g2 ys2 hl2 hV2 D2 h2 tk2 F' N' q2
      k_steps
      refine Box.in ?_
      obtain rfl := bools_map (f := fun i => decide ((i : Int) < mnF bs n)) (by omega) hV
      obtain rfl := bools_map (f := fun i => decide ((i : Int) < mnF bs n)) hl2 hV2
      rw [hyl] at N'
      refine ne_bools (bs := (List.range (n + 1)).map fun (i : Nat) => decide ((i : Int) < mnF bs n)) (N'.isList (.tail _ (.head _))) (N'.isList (.head _)) (law_units L fa) ?_
      (try dsimp only)
      k_steps
      refine Box.in ?_
      exact LSt.intro (by k_asm) (News.sub (by k_asm) (fun p hp => .tail _ (.tail _ hp))) d1 d2 d3 d4 d5 d6 d7 (by kst_all)
end
end Mine
local macro_rules | `(tactic| walk_at "mine pad") => `(tactic| skip)
local macro_rules | `(tactic| walk_at "mine pad") => `(tactic| skip)
local macro_rules | `(tactic| walk_at "mine pad") => `(tactic| skip)
local macro_rules | `(tactic| walk_at "mine pad") => `(tactic| skip)
local macro_rules | `(tactic| walk_at "mine pad") => `(tactic| skip)
local macro_rules | `(tactic| walk_at "mine pad") => `(tactic| skip)
local macro_rules | `(tactic| walk_at "mine pad") => `(tactic| skip)
local macro_rules | `(tactic| walk_at "mine pad") => `(tactic| skip)
open PySem PySem.W PyProof.Rows PySem.Calls
set_option maxRecDepth 100000
set_option maxHeartbeats 4000000
namespace Mine
section
local macro_rules | `(tactic| walk_at "call ref") => `(tactic| refine Box.out ?_)
local macro_rules | `(tactic| walk_at "CompSrc") => `(tactic| refine Box.out ?_)
local macro_rules | `(tactic| walk_at "eval ListComp") => `(tactic| walk_at "mine comp")
local macro_rules | `(tactic| walk_at "compareOp Eq ref ref") => `(tactic| refine Box.out ?_)
local macro_rules | `(tactic| k_mem) => `(tactic| walk_at "mine mem")
theorem seg23 (prog : Program) (w : World) (p : Program) (loose : List Str) (mean : ExcName → Option Value) (mg mb : Str → Option Value) (g : Heap) (L fa : Addr) (s0 : Shared) (R : List (Addr × Obj)) (B : Below callerA g [] g) (X : (hd.heap_39 w.params).In g) (T : Top p loose mean mg mb g) (hO : Off L R) (Q : Flow → Shared → Prop) (s : Shared) (bs : List Bool) (n cnt : Nat) (c1 c5 c6 c7 : Option Value) (tn tc : Tok) (hn : n ≤ 6) (x D3 : Addr) (ys3 : List Value)
    (hx : WsIn w.params R x (wsB bs)) (h3 : (D3, LCg.lst ys3) ∈ R) (hS : StrsAre ys3 ((List.range (n + 1)).map fun c => tx (stB n c)))
    (hw1 : (wsB bs).count.length ≤ 15 ∧ (wsB bs).b ≤ 15) (hw2 : ∀ j, j ≤ n → (wsB (stB n j ++ [false])).count.length ≤ 15 ∧ (wsB (stB n j ++ [false])).b ≤ 15)
    (hless : ∀ j, j ≤ n → lessF (wsB bs) (wsB (stB n j ++ [false])) = decide ((cnt : Int) ≤ (j : Int)))
    (H : LSt s0 g L c1 (some (.int (n : Int) tn)) (some (.int (cnt : Int) tc)) (some (.ref x)) c5 c6 c7 [("straight", .ref D3)] R s)
    (hQ : ∀ s', LSt s0 g L c1 (some (.int (n : Int) tn)) (some (.int (cnt : Int) tc)) (some (.ref x)) c5 c6 c7 [] R s' → Q (.ret (.bool true)) s') :
    LSeg prog w L fa 23 Q s := by
  w_top off
  unfold LSeg
  conv in (List.drop _ _) => whnf
  (try simp only [List.drop_zero])
  refine LSt.elim H ?_
  clear H
  intro h tk m o1 o2 o3 o4 o5 o6 o7 F N d1 d2 d3 d4 d5 d6 d7
  have l3 := hS.length
  rw [List.length_map, List.length_range] at l3
  (try k_unmd); (try k_fold)
  (try dsimp only)
  k_steps
  refine Box.in ?_
  have hx0 := hx
  refine WsIn.elim hx ?_
  intro dx D8 D9 zs k0 k1 k2 k3 k4 t0 tn' tt' tb y g1 g2 g3 g4 hZ
  refine src_list (vs := ys3) (k := ys3.length) (fun i y => y = .bool (decide ((cnt : Int) ≤ (i : Int)))) (celL.mem h3) (by omega) rfl F N ?step ?fin
  case step =>
    clear F N
    intro i I oI C oC D' m2 h' tk' v ys E' hi hv hC hx' F' N' off ne
    obtain ⟨u3, x3, q3, rfl⟩ := strs_at hS hv
    obtain rfl : tx (stB n i) = x3 := by simpa [show i < n + 1 by omega] using q3
    have hst : (stB n i).length ≤ 12 := by simp [stB]; omega
    have hi' : i ≤ n := by omega
    obtain ⟨a1, a2⟩ := hw2 i hi'
    have ls := tx_len (stB n i)
    k_steps
    refine Box.in ?_
    rw [sp_tx, tx_append]
    refine law_use (ws_spec _ _ _ _ _ _ _ _ _ _ (stB n i ++ [false]) (by rw [tx_len, List.length_append]; show _ + 1 ≤ 20; omega) (fun i b h => tx_get h) (fun k h => by
      rw [tx_end] at h
      cases h) (tx_size _)) (by decide) B (by k_asm) X (by k_asm) T ?_
    rintro v9 h9 tk9 n9 ⟨x', W, rfl, rfl, ⟨hc, hf⟩, hW⟩ F9 N9
    (try dsimp only)
    k_steps
    refine Box.in ?_
    refine law_use (less_spec _ _ _ _ _ _ _ _ x x' (wsB bs) (wsB (stB n i ++ [false])) (hx0.mono fun p hp => List.mem_append_right _ (.tail _ (.tail _ (.tail _ (celL.mem hp))))) (hW.mono fun p hp => List.mem_append_left _ hp) hw1.1 a1 hw1.2 a2) (by decide) B F9 X N9 T ?_
    rintro v8 h8 tk8 n8 ⟨e9, e8⟩ F8 N8
    rw [e9] at N8
    subst e8
    exact Box.in ⟨_, _, rfl, F8, News.sub N8 (fun p hp => List.mem_append_right _ hp), by rw [hless i hi']⟩
  case fin =>
    clear F N
    intro g' ys hl hV D' h' tk' F' N' q1
    k_steps
    refine Box.in ?_
    rename IsRange _ _ _ _ _ _ _ _ => hR
    rename Fr g L _ _ => F1
    rename News g L _ _ => N1
    refine src_range (n := n) (fun i y => y = .bool (decide ((cnt : Int) ≤ (i : Int)))) hR (by omega) rfl F1 N1 ?step ?fin
    case step =>
      clear F1 N1 hR
      intro i I oI C oC D2 m2 h2 tk2 t2 ys2 E' hi hC hx' F' N' off ne
      k_steps
      refine Box.in ?_
      exact ⟨_, _, rfl, by k_asm, by k_asm, rfl⟩
    case fin =>
      clear F1 N1 hR
      intro g2 ys2 hl2 hV2 D2 h2 tk2 F' N' q2
      k_steps
      refine Box.in ?_
      obtain rfl := bools_map (f := fun i => decide ((cnt : Int) ≤ (i : Int))) (by omega) hV
      obtain rfl := bools_map (f := fun i => decide ((cnt : Int) ≤ (i : Int))) hl2 hV2
      rw [l3] at N'
      refine eq_bools (bs := (List.range (n + 1)).map fun (i : Nat) => decide ((cnt : Int) ≤ (i : Int))) (N'.isList (.tail _ (.head _))) (N'.isList (.head _)) (law_units L fa) ?_
      (try dsimp only)
      k_steps
      exact hQ _ (LSt.intro (by k_asm) (News.sub (by k_asm) (fun p hp => .tail _ (.tail _ hp))) d1 d2 d3 d4 d5 d6 d7 (by kst_all))
end
end Mine
local macro_rules | `(tactic| walk_at "mine pad") => `(tactic| skip)
local macro_rules | `(tactic| walk_at "mine pad") => `(tactic| skip)
local macro_rules | `(tactic| walk_at "mine pad") => `(tactic| skip)
local macro_rules | `(tactic| walk_at "mine pad") => `(tactic| skip)
local macro_rules | `(tactic| walk_at "mine pad") => `(tactic| skip)
local macro_rules | `(tactic| walk_at "mine pad") => `(tactic| skip)
open PySem PySem.W PyProof.Rows PySem.Calls
set_option maxRecDepth 100000
namespace Mine
theorem outerF_mono (as : List Bool) {m m' : Int} (hm : m ≤ m') : ∀ (bs : List Bool) (j : Int) (row : List Int) (res : Int), outerF as m bs j row res ≤ m → outerF as m' bs j row res = outerF as m bs j row res
  | [], _, _, _, _ => rfl
  | bc :: bs, j, row, res, h => by
    simp only [outerF] at h ⊢
    by_cases q : m < (rowR bc as row j).mn
    · rw [if_pos q] at h; omega
    · rw [if_neg q] at h ⊢
      rw [if_neg (by omega)]
      exact outerF_mono as hm bs _ _ _ h
theorem levTail_mono (a b : List Bool) {m m' : Int} (hm : m ≤ m') (h : levTail a b m ≤ m) : levTail a b m' = levTail a b m := by
  unfold levTail at h ⊢
  by_cases q : a = [] ∨ b = []
  · rw [if_pos q, if_pos q]
  · rw [if_neg q] at h ⊢
    rw [if_neg q]
    dsimp only at h ⊢
    generalize (if b.length < a.length then b else a) = a3 at h ⊢
    generalize (if b.length < a.length then a else b) = b3 at h ⊢
    by_cases q2 : m < ((b3.length : Int) - (a3.length : Int)) * 2
    · rw [if_pos q2] at h; omega
    · rw [if_neg q2] at h ⊢
      rw [if_neg (by omega)]
      exact outerF_mono a3 hm b3 _ _ _ h
theorem levF_mono (a b : List Bool) {m m' : Int} (hm : m ≤ m') (h : levF a b m ≤ m) : levF a b m' = levF a b m := by
  unfold levF at h ⊢
  by_cases q : a = b
  · rw [if_pos q, if_pos q]
  · rw [if_neg q] at h ⊢
    rw [if_neg q]
    exact levTail_mono _ _ hm h
noncomputable def chk5 (bs : List Bool) : Bool := (List.range (bs.length + 1)).all fun c =>
  decide (levF bs (stB bs.length c) (wkF bs c) = wkF bs c) && decide (levF bs (stB bs.length c) (wkF bs c + -1) = wkF bs c) &&
  (decide (levF (stB bs.length c) bs (wkF bs c) = wkF bs c) && decide (levF (stB bs.length c) bs (wkF bs c + -1) = wkF bs c)) && decide (levF bs (stB bs.length c) 0 = min 1 (wkF bs c))
noncomputable def chk10 (bs : List Bool) : Bool := decide (cutF bs bs.length ≤ bs.length) && decide ((keptB bs bs.length).length ≤ 10) && decide (levF (keptB bs bs.length) bs (lowF bs bs.length) = lowF bs bs.length)
noncomputable def chk12 (bs : List Bool) : Bool := (List.range bs.length).all fun i => decide (movB bs i = bs) || decide (levF bs (movB bs i) 4 = 4)
noncomputable def qF (bs : List Bool) : Int := (bs.length : Int) - Int.fdiv (lowF bs bs.length) 2 - (bs.count true : Nat)
noncomputable def chk15 (bs : List Bool) : Bool := decide (0 ≤ qF bs) && decide ((qF bs).toNat ≤ bs.length) && decide (tabF bs = List.replicate (bs.count true) true ++ List.replicate (qF bs).toNat false)
noncomputable def chk17 (bs : List Bool) : Bool := decide ((wsB bs).n = bs.length) && decide ((wsB bs).nt = bs.count true) && (decide (((wsB bs).count.length : Int) ≤ 1) == decide (lowF bs bs.length = 0))
noncomputable def chk20 (bs : List Bool) : Bool := decide ((runsF bs).length ≤ 20) && (List.range bs.length).all fun i =>
  decide (indentF (wsB bs) (2 + i) = (bs.length : Int) + (((2 + i : Nat) : Int) - 1) * (bs.count true : Nat) - restF bs (2 + i)) && decide ((firstF bs bs.length (2 + i) : Int) = (bs.count true : Nat) - Int.fdiv (restF bs (2 + i)) (((2 + i : Nat) : Int) - 1)) &&
  decide ((lastF bs bs.length (2 + i) : Int) = (bs.count true : Nat) + 1 + Int.fdiv (-restF bs (2 + i)) (((2 + i : Nat) : Int) - 1))
noncomputable def chk22 (bs : List Bool) : Bool := (List.range (bs.length + 1)).all fun j => lessF (wsB (stB bs.length j)) (wsB (bs ++ [false])) == decide ((j : Int) < mnF bs bs.length)
noncomputable def chk23 (bs : List Bool) : Bool := (List.range (bs.length + 1)).all fun j => lessF (wsB bs) (wsB (stB bs.length j ++ [false])) == decide (((bs.count true : Nat) : Int) ≤ (j : Int))
noncomputable def lists46 : List (List Bool) := (lists 6).filter fun bs => decide (4 ≤ bs.length)
theorem mem46 (bs : List Bool) (h1 : 4 ≤ bs.length) (h2 : bs.length ≤ 6) : bs ∈ lists46 := List.mem_filter.mpr ⟨mem_lists 6 bs h2, decide_eq_true h1⟩
theorem all46 {P : List Bool → Bool} (h : lists46.all P = true) {bs : List Bool} (h1 : 4 ≤ bs.length) (h2 : bs.length ≤ 6) : P bs = true := List.all_eq_true.mp h bs (mem46 bs h1 h2)
theorem all_cut {P : List Bool → Bool} (n : Nat) {l : List (List Bool)} (h1 : (l.take n).all P = true) (h2 : (l.drop n).all P = true) : l.all P = true := by
  rw [← List.take_append_drop n l, List.all_append, h1, h2]; rfl
theorem k10 : lists46.all chk10 = true := by decide +kernel
theorem k12 : lists46.all chk12 = true := by decide +kernel
theorem k15 : lists46.all chk15 = true := by decide +kernel
theorem k17 : lists46.all chk17 = true := by decide +kernel
theorem k20a : (lists46.take 60).all chk20 = true := by decide +kernel
theorem k20b : (lists46.drop 60).all chk20 = true := by decide +kernel
theorem k22 : lists46.all chk22 = true := by decide +kernel
theorem k23 : lists46.all chk23 = true := by decide +kernel
theorem k5a : ((lists46.take 60).take 30).all chk5 = true := by decide +kernel
theorem k5b : ((lists46.take 60).drop 30).all chk5 = true := by decide +kernel
theorem k5c : ((lists46.drop 60).take 26).all chk5 = true := by decide +kernel
theorem k5d : ((lists46.drop 60).drop 26).all chk5 = true := by decide +kernel
section
variable {bs : List Bool} (h1 : 4 ≤ bs.length) (h2 : bs.length ≤ 6)
include h1 h2
theorem fact5 {c : Nat} (hc : c ≤ bs.length) : levF bs (stB bs.length c) (wkF bs c) = wkF bs c ∧ levF bs (stB bs.length c) (wkF bs c + -1) = wkF bs c ∧ levF (stB bs.length c) bs (wkF bs c) = wkF bs c ∧ levF (stB bs.length c) bs (wkF bs c + -1) = wkF bs c ∧ levF bs (stB bs.length c) 0 = min 1 (wkF bs c) := by
  have h := all46 (all_cut 60 (all_cut 30 k5a k5b) (all_cut 26 k5c k5d)) h1 h2
  have h := List.all_eq_true.mp h c (List.mem_range.mpr (by omega))
  simp only [Bool.and_eq_true, decide_eq_true_eq] at h
  exact ⟨h.1.1.1, h.1.1.2, h.1.2.1, h.1.2.2, h.2⟩
theorem fact5e {c : Nat} {e : Int} (hc : c ≤ bs.length) (he : e = -1 ∨ 0 ≤ e) : levF bs (stB bs.length c) (wkF bs c + e) = wkF bs c ∧ levF (stB bs.length c) bs (wkF bs c + e) = wkF bs c := by
  obtain ⟨a, b, c', d, -⟩ := fact5 h1 h2 hc
  rcases he with rfl | he
  · exact ⟨b, d⟩
  · exact ⟨(levF_mono _ _ (m := wkF bs c) (by omega) (by omega)).trans a, (levF_mono _ _ (m := wkF bs c) (by omega) (by omega)).trans c'⟩
theorem fact10 : cutF bs bs.length ≤ bs.length ∧ (keptB bs bs.length).length ≤ 10 ∧ ∀ r, (r = 0 ∨ r = 1) → levF (keptB bs bs.length) bs (lowF bs bs.length + r) = lowF bs bs.length := by
  have h := all46 k10 h1 h2
  simp only [chk10, Bool.and_eq_true, decide_eq_true_eq] at h
  refine ⟨h.1.1, h.1.2, fun r hr => ?_⟩
  exact (levF_mono _ _ (m := lowF bs bs.length) (by omega) (by omega)).trans h.2
theorem fact12 {i : Nat} (hi : i < bs.length) : ∀ r, 0 ≤ r → r < 3 → levF bs (movB bs i) (4 + r) = if movB bs i = bs then 0 else 4 := by
  intro r h0 _
  have h := all46 k12 h1 h2
  have h := List.all_eq_true.mp h i (List.mem_range.mpr hi)
  simp only [Bool.or_eq_true, decide_eq_true_eq] at h
  by_cases e : movB bs i = bs
  · rw [if_pos e, e]; unfold levF; rw [if_pos rfl]
  · rw [if_neg e]
    have h := h.resolve_left e
    exact (levF_mono _ _ (m := 4) (by omega) (by omega)).trans h
theorem fact15 : ∃ q : Nat, q ≤ bs.length ∧ (bs.length : Int) - Int.fdiv (lowF bs bs.length) 2 - (bs.count true : Nat) = (q : Int) ∧ tabF bs = List.replicate (bs.count true) true ++ List.replicate q false := by
  have h := all46 k15 h1 h2
  simp only [chk15, Bool.and_eq_true, decide_eq_true_eq] at h
  exact ⟨(qF bs).toNat, h.1.2, (Int.toNat_of_nonneg h.1.1).symm, h.2⟩
theorem fact17 : (wsB bs).n = bs.length ∧ (wsB bs).nt = bs.count true ∧ decide (((wsB bs).count.length : Int) ≤ 1) = decide (lowF bs bs.length = 0) := by
  have h := all46 k17 h1 h2
  simp only [chk17, Bool.and_eq_true, decide_eq_true_eq] at h
  exact ⟨h.1.1, h.1.2, eq_of_beq h.2⟩
theorem fact20 : (runsF bs).length ≤ 20 ∧ ∀ ts, 2 ≤ ts → ts ≤ bs.length + 1 → indentF (wsB bs) ts = (bs.length : Int) + ((ts : Int) - 1) * ((bs.count true : Nat) : Int) - restF bs ts ∧ (firstF bs bs.length ts : Int) = ((bs.count true : Nat) : Int) - Int.fdiv (restF bs ts) ((ts : Int) - 1) ∧ (lastF bs bs.length ts : Int) = ((bs.count true : Nat) : Int) + 1 + Int.fdiv (-restF bs ts) ((ts : Int) - 1) := by
  have h := all46 (all_cut 60 k20a k20b) h1 h2
  unfold chk20 at h
  rw [Bool.and_eq_true] at h
  refine ⟨of_decide_eq_true h.1, fun ts a b => ?_⟩
  have h := List.all_eq_true.mp h.2 (ts - 2) (List.mem_range.mpr (by omega))
  rw [show 2 + (ts - 2) = ts by omega] at h
  simp only [Bool.and_eq_true, decide_eq_true_eq] at h
  exact ⟨h.1.1, h.1.2, h.2⟩
theorem fact22 {j : Nat} (hj : j ≤ bs.length) : lessF (wsB (stB bs.length j)) (wsB (bs ++ [false])) = decide ((j : Int) < mnF bs bs.length) := by
  have h := all46 k22 h1 h2
  exact eq_of_beq (List.all_eq_true.mp h j (List.mem_range.mpr (by omega)))
theorem fact23 {j : Nat} (hj : j ≤ bs.length) : lessF (wsB bs) (wsB (stB bs.length j ++ [false])) = decide (((bs.count true : Nat) : Int) ≤ (j : Int)) := by
  have h := all46 k23 h1 h2
  exact eq_of_beq (List.all_eq_true.mp h j (List.mem_range.mpr (by omega)))
end
theorem ws_small (bs : List Bool) (h : bs.length ≤ 15) : (wsB bs).count.length ≤ 15 ∧ (wsB bs).b ≤ 15 := by
  have := wsB_bound bs.length bs
  rw [List.take_length] at this
  omega
end Mine
open PySem PySem.W PyProof.Rows PySem.Calls
set_option maxRecDepth 100000
set_option maxHeartbeats 4000000
namespace Mine
theorem bits_len (ns : List Int) : 4 ≤ (bitsOf ns).length ∧ (bitsOf ns).length ≤ 6 := by
  unfold bitsOf drawsOf
  rw [List.length_map, List.length_append, List.length_take, List.length_drop]
  show 4 ≤ min 6 ns.length + (4 - ns.length) ∧ min 6 ns.length + (4 - ns.length) ≤ 6
  omega
theorem stB_len {n j : Nat} (h : j ≤ n) : (stB n j).length = n := by
  simp [stB]; omega
theorem lst_cls (ys : List Value) : (LCg.lst ys).cls ≠ .none := by intro e; cases e
theorem law_body (prog : Program) (w : World) (p : Program) (loose : List Str) (mean : ExcName → Option Value) (mg mb : Str → Option Value) (g : Heap) (L fa : Addr) (s : Shared) (S : Addr) (vs : List Value) (ns : List Int) (m : Str → Option Value) (o1 o2 o3 o4 o5 o6 o7 : Obj)
    (F : Fr g L s.heap m) (hm : m "script" = some (.ref S)) (N : News g L s.heap (celL L o1 o2 o3 o4 o5 o6 o7 [(121, tabObj #[])])) (d1 : o1.data = .cell none) (d2 : o2.data = .cell none) (d3 : o3.data = .cell none) (d4 : o4.data = .cell none) (d5 : o5.data = .cell none) (d6 : o6.data = .cell none) (d7 : o7.data = .cell none)
    (hl : g.IsList S vs.toArray) (hI : IntsAre vs ns) (hn : ns.length ≤ 63) (hlay : (PyData.list (ns.map PyData.int)).layable0 = true) (B : Below callerA g [] g) (X : (hd.heap_39 w.params).In g) (T : Top p loose mean mg mb g) (C : CodeHd g 123 121) (l0 : 121 < L) :
    wpAny (model prog w) (callerA.deeper (lawE L fa)) (execs (fnB 13) (lawE L fa)) (LawEnd s g L) (fun _ _ => False) s := by
  obtain ⟨hb4, hb6⟩ := bits_len ns
  have hdl : (drawsOf ns).length ≤ 10 := by have : (bitsOf ns).length = (drawsOf ns).length := List.length_map ..; omega
  have hw1 := ws_small (bitsOf ns) (by omega)
  have hw2 : ∀ j, j ≤ (bitsOf ns).length → (wsB (stB (bitsOf ns).length j)).count.length ≤ 15 ∧ (wsB (stB (bitsOf ns).length j)).b ≤ 15 := fun j hj => ws_small _ (by rw [stB_len hj]; omega)
  have hw3 : ∀ j, j ≤ (bitsOf ns).length → (wsB (stB (bitsOf ns).length j ++ [false])).count.length ≤ 15 ∧ (wsB (stB (bitsOf ns).length j ++ [false])).b ≤ 15 := fun j hj => ws_small _ (by rw [List.length_append, stB_len hj, List.length_singleton]; omega)
  have hw4 := ws_small (bitsOf ns ++ [false]) (by rw [List.length_append, List.length_singleton]; omega)
  obtain ⟨f10a, f10b, f10c⟩ := fact10 hb4 hb6
  obtain ⟨f17a, f17b, f17c⟩ := fact17 hb4 hb6
  obtain ⟨f20a, f20b⟩ := fact20 hb4 hb6
  refine segA0 prog w p loose mean mg mb g L fa s S vs ns m o1 o2 o3 o4 o5 o6 o7 (Fr.ps F (by intro p hp; rw [List.mem_singleton.mp hp]; exact hm)) N d1 d2 d3 d4 d5 d6 d7 hl hI hn hlay B X T C l0 _ ?_
  intro s1 D0 zs0 k0 hI0 hO0 H0
  refine seg1 prog w p loose mean mg mb g L fa s1 s _ (drawsOf ns) D0 zs0 k0 H0 (.head _) hI0 hdl hO0 B X T l0 _ ?_
  intro s2 t1 H1
  change LSt s g L (some (.str (tx (bitsOf ns)) t1)) none none none none none none _ _ s2 at H1
  refine seg2 prog w p loose mean mg mb g L fa s _ B X T hO0 _ s2 (bitsOf ns) (drawsOf ns) D0 zs0 k0 t1 H1 (.head _) hI0 hdl hb6 ?_
  intro s3 t2 t3 t4 H2
  refine seg3 prog w p loose mean mg mb g L fa s _ B X T hO0 _ s3 (bitsOf ns) (bitsOf ns).length _ _ t2 _ hb6 H2 ?_
  intro s4 D3 ys3 hS hO3 H3
  refine seg4 prog w p loose mean mg mb g L fa s _ B X T hO3 _ s4 (bitsOf ns) (bitsOf ns).length _ t1 t2 _ _ hb6 rfl H3 ?_
  intro s5 D4 ys4 hI4 hO4 H4
  refine seg5 prog w p loose mean mg mb g L fa s _ B X T hO4 _ s5 (bitsOf ns) (bitsOf ns).length _ t1 t2 t4 _ hb6 rfl D3 D4 ys3 ys4 (.tail _ (.head _)) (.head _) hS hI4 (fun c e hc he => fact5e hb4 hb6 hc he) H4 ?_
  intro s6 H5
  refine seg6 prog w p loose mean mg mb g L fa s _ B X T hO4 _ s6 (bitsOf ns) (bitsOf ns).length _ t1 t2 t4 _ hb6 rfl D3 D4 ys3 ys4 (.tail _ (.head _)) (.head _) hS hI4 (fun c hc => (fact5 hb4 hb6 hc).2.2.2.2) H5 ?_
  intro s7 H6
  refine seg7 prog w p loose mean mg mb g L fa s _ B X T hO4 _ s7 (bitsOf ns) (bitsOf ns).length _ t1 t2 t4 _ hb6 rfl D3 D4 ys4 (.head _) hI4 H6 ?_
  intro s9 t5 t6 H7
  refine seg9 prog w p loose mean mg mb g L fa s _ B X T hO4 _ s9 (bitsOf ns) (bitsOf ns).length _ t1 t2 t4 t5 t6 _ hb6 rfl _ f10a H7 ?_
  intro s10 t7 H9
  refine seg10 prog w p loose mean mg mb g L fa s _ B X T hO4 _ s10 (bitsOf ns) (bitsOf ns).length _ t1 t2 t4 t5 t7 _ hb6 rfl _ f10b f10c H9 ?_
  intro s11 H10
  refine seg11 prog w p loose mean mg mb g L fa s _ B X T hO4 _ s11 (bitsOf ns) (bitsOf ns).length _ t1 t2 t4 t5 _ hb6 (by omega) rfl _ H10 ?_
  intro s12 t8 i hi H11
  refine seg12 prog w p loose mean mg mb g L fa s _ B X T hO4 _ s12 (bitsOf ns) (bitsOf ns).length i _ t1 t2 t4 t5 t8 _ hb6 rfl _ hi (fact12 hb4 hb6 hi) H11 ?_
  intro s13 H12
  refine seg13 prog w p loose mean mg mb g L fa s _ B X T hO4 _ s13 _ _ _ _ _ H12 ?_
  intro s14 Dt k1 H13
  refine seg14 prog w p loose mean mg mb g L fa s _ B X T hO4 _ s14 (bitsOf ns) (bitsOf ns).length _ _ t1 _ hb6 rfl _ Dt k1 H13 ?_
  intro s15 Dt zs k1 hZ H14
  refine seg15 prog w p loose mean mg mb g L fa s _ B X T hO4 _ s15 (bitsOf ns) (bitsOf ns).length t1 t2 t3 t5 hb6 rfl _ Dt zs k1 hZ (fact15 hb4 hb6) H14 ?_
  intro s16 H15
  refine seg16 prog w p loose mean mg mb g L fa s _ B X T hO4 _ s16 (bitsOf ns) _ _ t1 hb6 _ _ H15 ?_
  intro s17 x W hW hfW hOW H16
  refine seg17 prog w p loose mean mg mb g L fa s _ B X T hOW _ s17 (bitsOf ns) (bitsOf ns).length _ t2 t3 t5 _ x (hW.mono fun p hp => List.mem_append_left _ hp) rfl f17a f17b f17c H16 ?_
  intro s18 H17
  refine seg18 prog w p loose mean mg mb g L fa s _ B X T hOW _ s18 _ _ _ _ (bitsOf ns).length hb6 D3 ys3 (List.mem_append_right _ (.tail _ (.head _))) hS H17 ?_
  intro s19 D ysD V Dl hyl hRow hfV hO18 H18
  refine seg19 prog w p loose mean mg mb g L fa s _ B X T hO18 _ s19 (bitsOf ns) t1 _ _ _ _ hb6 _ _ H18 ?_
  intro s20 Dr ysr hIr hDr hO19 H19
  obtain ⟨R4, hR4⟩ : ∃ R4, R4 = (D4, LCg.lst ys4) :: (D3, LCg.lst ys3) :: [(D0, PySem.W.listOf zs0.toArray k0), (121, tabObj #[])] := ⟨_, rfl⟩
  rw [← hR4] at H19 hO19 hO18 hfV hDr hfW
  have m121 : ((121 : Addr), tabObj #[]) ∈ R4 := hR4 ▸ .tail _ (.tail _ (.tail _ (.head _)))
  have m3 : (D3, LCg.lst ys3) ∈ R4 := hR4 ▸ .tail _ (.head _)
  have hsub : ∀ p ∈ ((Dr, LCg.lst ysr) :: (D, LCg.lst ysD) :: (V ++ (W ++ [(D4, LCg.lst ys4), (D3, LCg.lst ys3)])) : List (Addr × Obj)), p ∈ (Dr, LCg.lst ysr) :: (Dl, PySem.W.listOf ([] : List Value).toArray 0) :: (D, LCg.lst ysD) :: (V ++ (W ++ R4)) := by
    subst hR4
    intro p hp
    simp only [List.mem_cons, List.mem_append] at hp ⊢
    rcases hp with h | h | h | h | h | h | h
    all_goals first | (simp [h]; done) | cases h
  obtain ⟨R1, hR1⟩ : ∃ R1, R1 = ((Dr, LCg.lst ysr) :: (D, LCg.lst ysD) :: (V ++ (W ++ [(D4, LCg.lst ys4), (D3, LCg.lst ys3)])) : List (Addr × Obj)) := ⟨_, rfl⟩
  have n121 : ∀ a ys, (a, LCg.lst ys) ∈ (Dr, LCg.lst ysr) :: (Dl, PySem.W.listOf ([] : List Value).toArray 0) :: (D, LCg.lst ysD) :: (V ++ (W ++ R4)) → a ≠ 121 := by
    obtain ⟨h', tk, m', q1, q2, q3, q4, q5, q6, q7, e, F', N', -⟩ := H19
    intro a ys ha
    exact news_ne N' (celL.mem ha) (celL.mem (.tail _ (.tail _ (.tail _ (List.mem_append_right _ (List.mem_append_right _ m121)))))) (lst_cls ys)
  have h121 : ∀ p ∈ R1, p.1 ≠ 121 := by
    intro p hp
    rw [hR1] at hp
    have hp2 := hsub p hp
    rcases List.mem_cons.mp hp with rfl | hp
    · exact n121 _ _ hp2
    · rcases List.mem_cons.mp hp with rfl | hp
      · exact n121 _ _ hp2
      · rcases List.mem_append.mp hp with hp | hp
        · exact Fresh.ne hfV.1 (List.mem_append_right W m121) p hp
        · rcases List.mem_append.mp hp with hp | hp
          · exact Fresh.ne hfW m121 p hp
          · rcases List.mem_cons.mp hp with rfl | hp
            · exact n121 _ _ hp2
            · rw [List.mem_singleton.mp hp] at hp2 ⊢
              exact n121 _ _ hp2
  have hDl : ∀ p ∈ R1, p.1 ≠ Dl := by
    intro p hp
    rw [hR1] at hp
    rcases List.mem_cons.mp hp with rfl | hp
    · exact fun e => hDr _ (.head _) e.symm
    · refine hfV.2 p ?_
      subst hR4
      simp only [List.mem_cons, List.mem_append] at hp ⊢
      rcases hp with h | h | h | h | h | h
      all_goals first | (simp [h]; done) | cases h
  have hl1 : Dl ≠ 121 := n121 Dl [] (.tail _ (.head _))
  have hO1 : Off L R1 := Off.sub hO19 (hR1 ▸ hsub)
  have H19' := LSt.sub (V := (Dl, PySem.W.listOf ([] : List Value).toArray 0) :: (121, tabObj #[]) :: R1) H19 (by
    intro p hp
    rcases List.mem_cons.mp hp with rfl | hp
    · exact .tail _ (.head _)
    · rcases List.mem_cons.mp hp with rfl | hp
      · exact .tail _ (.tail _ (.tail _ (List.mem_append_right _ (List.mem_append_right _ m121))))
      · exact hsub p (hR1 ▸ hp))
  have mDr : (Dr, LCg.lst ysr) ∈ R1 := hR1 ▸ .head _
  have mD : (D, LCg.lst ysD) ∈ R1 := hR1 ▸ .tail _ (.head _)
  have mV : ∀ p ∈ V, p ∈ R1 := fun p hp => hR1 ▸ .tail _ (.tail _ (List.mem_append_left _ hp))
  have mW : ∀ p ∈ W, p ∈ R1 := fun p hp => hR1 ▸ .tail _ (.tail _ (List.mem_append_right _ (List.mem_append_left _ hp)))
  have mD3 : (D3, LCg.lst ys3) ∈ R1 := hR1 ▸ .tail _ (.tail _ (List.mem_append_right _ (List.mem_append_right _ (.tail _ (.head _)))))
  clear H19 hsub n121
  refine seg20 prog w p loose mean mg mb g L fa s R1 B X T hO1 _ C l0 s20 (bitsOf ns) (bitsOf ns).length ((bitsOf ns).count true) hb6 hb6 _ _ x t2 t3 _ Dr D Dl ysr ysD mDr hIr (hW.mono mW) f20a (by omega) hyl (fun j hj => by have := (hw2 j hj).1; omega) mD (hRow.mono mV) h121 hDl hl1 (hO18 _ (.head _)) f20b H19' ?_
  intro s21 zs2 k2 tps V2 c7 hZ2 hO20 H20
  refine seg21 prog w p loose mean mg mb g L fa s _ B X T hO20 _ s21 (bitsOf ns) _ _ _ _ _ t1 hb6 _ _ H20 ?_
  intro s22 x2 W2 hW2 hO21 H21
  refine seg22 prog w p loose mean mg mb g L fa s _ B X T hO21 _ s22 (bitsOf ns) (bitsOf ns).length _ _ _ _ t2 hb6 (by omega) _ x2 D Dl ysD zs2 k2 (hW2.mono fun p hp => List.mem_append_left _ hp) hyl
    (List.mem_append_right _ (.tail _ (.tail _ (List.mem_append_right _ mD)))) (hRow.mono fun p hp => List.mem_append_right _ (.tail _ (.tail _ (List.mem_append_right _ (mV p hp))))) (List.mem_append_right _ (.head _)) hZ2 hw4 hw2 (fun j hj => fact22 hb4 hb6 hj) H21 ?_
  intro s23 H22
  refine seg23 prog w p loose mean mg mb g L fa s _ B X T hO21 _ s23 (bitsOf ns) (bitsOf ns).length ((bitsOf ns).count true) _ _ _ _ t2 t3 hb6 x D3 ys3 (hW.mono fun p hp => List.mem_append_right _ (.tail _ (.tail _ (List.mem_append_right _ (mW p hp)))))
    (List.mem_append_right _ (.tail _ (.tail _ (List.mem_append_right _ mD3)))) hS hw1 hw3 (fun j hj => fact23 hb4 hb6 hj) H22 ?_
  intro s24 H23
  obtain ⟨h', tk, m', q1, q2, q3, q4, q5, q6, q7, rfl, F', N', -⟩ := H23
  exact ⟨h', tk, _, _, tps, rfl, rfl, F', N', celL.mem (List.mem_append_right _ (.tail _ (.head _)))⟩
end Mine
set_option maxHeartbeats 8000000
theorem PySem.Challenge.cw_pu0058_01_holds : PySem.Challenge.rw_pu0058_01.Holds :=
  Mine.hd (by
    w_strict (k_go0
              rename Fr _ _ _ _ => F
              rename News _ _ _ _ => N
              rename CodeHd _ _ _ => C
              rename Below _ _ _ _ => B
              rename Top _ _ _ _ _ _ => T
              rename Heap.IsList (ghostOf _ _) _ _ => hl
              rename IntsAre _ _ => hI
              rename PyData.layable0 _ = true => hlay
              rename ¬ ((63 : Nat) : Int) < _ => hn
              rename 121 < _ => l0
              rename Frag.In _ (ghostOf _ _) => X
              refine wpAny_mono (Mine.law_body _ _ _ _ _ _ _ _ _ _ _ _ _ _ _ _ _ _ _ _ _ _ F rfl N (by assumption) (by assumption) (by assumption) (by assumption) (by assumption) (by assumption) (by assumption) hl hI (by omega) hlay B X T C l0) (fun f s' hp => ?_) (fun _ _ x => x.elim)
              obtain ⟨h, tk, m', news', ps, rfl, rfl, F', N', hmem⟩ := hp
              dsimp only
              clear F N
              refine ⟨?_, GrownAt.of N' hmem, trivial⟩
              wrow_close))
