import PyProof.Rows.All
import Wide.All
import OpenK.AllK
import Wide.FinOn
import PySem.Challenge.RW_zt0003_01
open PySem PySem.W PySem.Calls PySem.Spec PyProof.Rows
set_option Elab.async false
set_option maxRecDepth 100000
set_option maxHeartbeats 8000000
set_option linter.all false

namespace Mine
open_top hd for PySem.Challenge.rw_zt0003_01
end Mine

namespace Mine

/-- The ledger of a callee: what it may change. All else stands in the base g. -/
def Led (g h : Heap) (need : List (Addr × Obj)) : Prop := ∀ p ∈ need, h.get? p.1 = some p.2 ∧ g.get? p.1 = none

def Spec (w : World) (p : Program) (loose : List Str) (mean : ExcName → Option Value) (mg mb : Str → Option Value) (dd uu : Nat) (f : Addr) (vs : List Value) (G : Heap → Prop) (need : List (Addr × Obj)) (Post : Value → List (Addr × Obj) → Prop) : Prop :=
  ∀ (dp un : Nat) (gd : Option (List Code)) (env : Env) (outer : List Env) (base g : Heap) (s : Shared) (Q E : Value → Shared → Prop),
    Below { handled := none, depth := dp, frames := some (env :: outer), guards := gd, units := un } base (env :: outer) g →
    (hd.heap_39 w.params).In g → Top p loose mean mg mb g → CodeHd g 41 37 → CodeHd g 34 30 → G g →
    dp + dd < recursionLimit → un + uu < cLine →
    g.StaysIn s.heap → g.objs.size ≤ s.heap.objs.size → Led g s.heap need →
    (∀ v need' h' tk', g.StaysIn h' → Led g h' need' → Post v need' → Q v { s with heap := h', toks := tk' }) →
    wpAny (model PySem.Challenge.rw_zt0003_01.row.prog w) { handled := none, depth := dp, frames := some (env :: outer), guards := gd, units := un } (call (.ref f) vs) Q E s

section
variable {w : World} {p : Program} {loose : List Str} {mean : ExcName → Option Value} {mg mb : Str → Option Value} {g : Heap} {need : List (Addr × Obj)}

theorem enter_plain {prog : Program} {dp un : Nat} {gd : Option (List Code)} {env : Env} {outer : List Env} {s : Shared} {Q E : Value → Shared → Prop} {K : Frag} {f : Addr} {oc : Value} {od : Option Addr} {osl : Array (Option Value)} {name qual : Str} {params : Arguments} {body : List Stmt} {scope : Scope} {dV kV doc pm cdv ct : Value} {an : Option Addr} {vs : List Value} {kw : List (Str × Value)} {binds : List (Str × Value)}
    (X : K.In g) (T : Top p loose mean mg mb g) (st : g.StaysIn s.heap) (hsz : g.objs.size ≤ s.heap.objs.size) (N : Led g s.heap need)
    (ho : K.lookup f = some ⟨oc, od, .func (fnOf name qual params body scope dV kV doc pm an cdv ct), osl⟩) (hcd : codeIn K cdv qual = true) (hroom : dp < recursionLimit)
    (hbind : BindsTo s (fnOf name qual params body scope dV kV doc pm an cdv ct) ⟨vs, kw⟩ binds) (hloc : ∀ y ∈ binds, scope.names.lookup y.1 = some .local)
    (h : ∀ L h₁, Fr g L h₁ (fun y => binds.reverse.lookup y) → News g L h₁ need → (∀ q ∈ need, q.1 < L) →
      wpAny (model prog w) (Around.deeper { handled := none, depth := dp, frames := some (env :: outer), guards := gd, units := un } (envOf qual scope L f cdv)) (execs body (envOf qual scope L f cdv))
        (fun fl s' => Q (match fl with | .ret v => v | _ => .none) s')
        (fun _ _ => False)
        { s with heap := h₁, toks := s.toks + binds.length })
    (hco : scope.isCoroutine = false) (hgen : scope.isGenerator = false) (hk : scope.kind = .function)
    (hcell : ∀ x ∈ scope.names, x.2 ≠ .cell) :
    wpAny (model prog w) { handled := none, depth := dp, frames := some (env :: outer), guards := gd, units := un } (call (.ref f) vs kw) Q E s := by
  refine wpAny_call (codeAny_call_def (fd := fnOf name qual params body scope dV kV doc pm an cdv ct) (body := body) (binds := binds) hroom (st _ _ (X _ _ ho)) rfl (T.nolimit.keeps st) ((codeRec_of X hcd).keeps st) rfl hbind hcell hloc (fun h₁ hns hk₁ => ?_) hco hgen hk)
  refine wpAny_mono (h s.heap.objs.size h₁ ⟨hns, fun b o e => hk₁ b o (st b o e), hsz⟩ (fun q hq => ⟨hk₁ _ _ (N q hq).1, Nat.ne_of_lt (Heap.lt_size (N q hq).1), (N q hq).2⟩) fun q hq => Heap.lt_size (N q hq).1) (fun _ _ x => x) fun _ _ x => x.elim

theorem fin_use {s : Shared} {Q : Value → Shared → Prop} {Post : Value → List (Addr × Obj) → Prop} {L tk' : Nat} {h' : Heap} {m : Str → Option Value} {v : Value} {need' : List (Addr × Obj)}
    (hQ : ∀ v need' h' tk', g.StaysIn h' → Led g h' need' → Post v need' → Q v { s with heap := h', toks := tk' })
    (F : Fr g L h' m) (N : News g L h' need') (P : Post v need') : Q v { s with heap := h', toks := tk' } :=
  hQ v need' h' tk' F.keep (fun q hq => ⟨(N q hq).1, (N q hq).2.2⟩) P

theorem enter_cells {prog : Program} {dp un : Nat} {gd : Option (List Code)} {env : Env} {outer : List Env} {s : Shared} {Q E : Value → Shared → Prop} {K : Frag} {f : Addr} {oc : Value} {od : Option Addr} {osl : Array (Option Value)} {name qual : Str} {params : Arguments} {body : List Stmt} {scope : Scope} {dV kV doc pm cdv ct : Value} {an : Option Addr} {vs : List Value} {kw : List (Str × Value)} {binds : List (Str × Value)}
    (X : K.In g) (T : Top p loose mean mg mb g) (st : g.StaysIn s.heap) (hsz : g.objs.size ≤ s.heap.objs.size) (N : Led g s.heap need)
    (ho : K.lookup f = some ⟨oc, od, .func (fnOf name qual params body scope dV kV doc pm an cdv ct), osl⟩) (hcd : codeIn K cdv qual = true) (hroom : dp < recursionLimit)
    (hbind : BindsTo s (fnOf name qual params body scope dV kV doc pm an cdv ct) ⟨vs, kw⟩ binds) (hkind : (binds.all fun y => scope.names.lookup y.1 == some .local || scope.names.lookup y.1 == some .cell) = true)
    (hnd : ((cellsFrom 0 scope.names []).map (·.1)).Nodup)
    (h : ∀ L h₁ tk cells, Fr g L h₁ (bindL (envOfC qual scope L f cdv).kindOf binds fun _ => none) → News g L h₁ (cells ++ need) →
      CellsAre (bindC (envOfC qual scope L f cdv).kindOf binds fun _ => none) (cellsFrom (L + 1) scope.names []) cells → (∀ q ∈ need, q.1 < L) →
      wpAny (model prog w) (Around.deeper { handled := none, depth := dp, frames := some (env :: outer), guards := gd, units := un } (envOfC qual scope L f cdv)) (execs body (envOfC qual scope L f cdv))
        (fun fl s' => Q (match fl with | .ret v => v | _ => .none) s')
        (fun _ _ => False)
        { s with heap := h₁, toks := tk })
    (hco : scope.isCoroutine = false) (hgen : scope.isGenerator = false) (hk : scope.kind = .function) :
    wpAny (model prog w) { handled := none, depth := dp, frames := some (env :: outer), guards := gd, units := un } (call (.ref f) vs kw) Q E s := by
  refine wpAny_call (codeAny_call_function hroom (st _ _ (X _ _ ho)) rfl hco hgen rfl ((codeRec_of X hcd).keeps st) (hbind _ _ _ _ ?_))
  refine wpAny_newFunctionEnv_cells hk (kindsX hkind _) fun env' he s' x => ?_
  subst he
  refine ⟨(T.nolimit.keeps st).keeps x.toInCall.keep, codeAny_func ?_⟩
  obtain ⟨h₁, tk, rfl, _⟩ := x.done
  have hk₁ := x.toInCall.keep
  obtain ⟨cells, NC, Y⟩ := Cl.news (h₀ := s.heap) (Nat.le_refl _) fun n c hm => ⟨x.cell n c (lookup_of_mem_nodup (cellsFrom_names scope.names 0 (s.heap.objs.size + 1) [] [] rfl ▸ hnd) hm), x.above n c hm⟩
  refine wpAny_mono (h s.heap.objs.size h₁ tk cells ⟨x.toInCall.ns, fun b o e => hk₁ b o (st b o e), hsz⟩ (fun q hq => ?_) Y fun q hq => Heap.lt_size (N q hq).1) (fun _ _ x => x) fun _ _ x => x.elim
  rcases List.mem_append.mp hq with hq | hq
  · refine ⟨(NC q hq).1, (NC q hq).2.1, ?_⟩
    cases e : g.get? q.1 with
    | none => rfl
    | some o => have := st _ _ e; rw [(NC q hq).2.2] at this; cases this
  · exact ⟨hk₁ _ _ (N q hq).1, Nat.ne_of_lt (Heap.lt_size (N q hq).1), (N q hq).2⟩

theorem enter_nest {prog : Program} {dp un : Nat} {gd : Option (List Code)} {env : Env} {outer : List Env} {s : Shared} {Q E : Value → Shared → Prop} {f c' : Addr} {name qual : Str} {params : Arguments} {body : List Stmt} {scope : Scope} {cl : List (Str × Addr)} {doc pm ctv : Value} {vs : List Value} {kw : List (Str × Value)} {binds : List (Str × Value)} {oc : Obj} {cvs : Array Value} {qt : Tok}
    (T : Top p loose mean mg mb g) (st : g.StaysIn s.heap) (hsz : g.objs.size ≤ s.heap.objs.size) (N : Led g s.heap need)
    (ho : (f, fnMade name qual params body scope cl doc pm c' ctv) ∈ need) (hc : (c', oc) ∈ need) (hcd : oc.data = .fields cvs) (hcq : cvs[1]? = some (.str qual qt)) (hroom : dp < recursionLimit)
    (hbind : BindsTo s (fnX name qual params body scope cl .none .none doc pm none (.ref c') ctv) ⟨vs, kw⟩ binds) (hloc : ∀ y ∈ binds, scope.names.lookup y.1 = some .local)
    (h : ∀ L h₁, Fr g L h₁ (fun y => binds.reverse.lookup y) → News g L h₁ need → (∀ q ∈ need, q.1 < L) →
      wpAny (model prog w) (Around.deeper { handled := none, depth := dp, frames := some (env :: outer), guards := gd, units := un } (envX qual scope L f (.ref c') cl)) (execs body (envX qual scope L f (.ref c') cl))
        (fun fl s' => Q (match fl with | .ret v => v | _ => .none) s')
        (fun _ _ => False)
        { s with heap := h₁, toks := s.toks + binds.length })
    (hco : scope.isCoroutine = false) (hgen : scope.isGenerator = false) (hk : scope.kind = .function)
    (hcell : ∀ x ∈ scope.names, x.2 ≠ .cell) :
    wpAny (model prog w) { handled := none, depth := dp, frames := some (env :: outer), guards := gd, units := un } (call (.ref f) vs kw) Q E s := by
  refine wpAny_call (codeAny_call_def (fd := fnX name qual params body scope cl .none .none doc pm none (.ref c') ctv) (body := body) (binds := binds) hroom (N _ ho).1 rfl (T.nolimit.keeps st) ⟨c', oc, cvs, qt, rfl, (N _ hc).1, hcd, hcq⟩ rfl hbind hcell hloc (fun h₁ hns hk₁ => ?_) hco hgen hk)
  refine wpAny_mono (h s.heap.objs.size h₁ ⟨hns, fun b o e => hk₁ b o (st b o e), hsz⟩ (fun q hq => ⟨hk₁ _ _ (N q hq).1, Nat.ne_of_lt (Heap.lt_size (N q hq).1), (N q hq).2⟩) fun q hq => Heap.lt_size (N q hq).1) (fun _ _ x => x) fun _ _ x => x.elim

theorem Spec.use {dd uu : Nat} {f : Addr} {vs : List Value} {G : Heap → Prop} {Post : Value → List (Addr × Obj) → Prop} (S : Spec w p loose mean mg mb dd uu f vs G need Post)
    {A : Around} {dp un : Nat} {gd : Option (List Code)} {env : Env} {outer : List Env} {A₀ : Around} {base h₀ : Heap} {L : Addr} {m : Str → Option Value} {news rest : List (Addr × Obj)} {s : Shared} {Q E : Value → Shared → Prop}
    (hA : A = { handled := none, depth := dp, frames := some (env :: outer), guards := gd, units := un })
    (B : Below A₀ base outer h₀) (F : Fr h₀ L s.heap m) (hf : env.frame = some L) (hke : env.scope.kind = .function)
    (X : (hd.heap_39 w.params).In h₀) (T : Top p loose mean mg mb h₀) (C1 : CodeHd h₀ 41 37) (C2 : CodeHd h₀ 34 30)
    (N : News h₀ L s.heap news) (sub : ∀ q ∈ need, q ∈ news) (subr : ∀ q ∈ rest, q ∈ news) (off : ∀ q ∈ rest, ∀ n ∈ need, q.1 ≠ n.1)
    (hG : ∀ g, h₀.StaysIn g → (∀ q ∈ rest, g.get? q.1 = some q.2) → G g)
    (hd : dp + dd < recursionLimit) (hu : un + uu < cLine)
    (k : ∀ v need' h' tk', Fr h₀ L h' m → News h₀ L h' (need' ++ rest) → (∀ n ∈ need', ∀ q ∈ rest, n.1 ≠ q.1) → Post v need' → Q v { s with heap := h', toks := tk' }) :
    wpAny (model PySem.Challenge.rw_zt0003_01.row.prog w) A (call (.ref f) vs) Q E s := by
  subst hA
  have Nn : News h₀ L s.heap need := fun q hq => N q (sub q hq)
  obtain ⟨FG, BG, sg, _⟩ := groundX (A := { handled := none, depth := dp, frames := some (env :: outer), guards := gd, units := un }) (R := fun _ _ => True) B F Nn rfl hf hke
  have gr : ∀ q ∈ rest, (hideAll s.heap (need.map (·.1))).get? q.1 = some q.2 := fun q hq =>
    hideAll_get _ (N q (subr q hq)).1 fun hm => by
      obtain ⟨n, hn, e⟩ := List.mem_map.mp hm
      exact off q hq n hn e.symm
  obtain ⟨oL, es, ep, hLg, r⟩ := FG.ns
  refine S dp un gd env outer base _ s Q E BG (X.keeps sg) (T.keeps sg) (C1.keeps sg) (C2.keeps sg) (hG _ sg gr) hd hu (fun b o e => of_hideAll _ e) (Nat.le_of_eq (hideAll_size _ _))
    (fun q hq => ⟨(Nn q hq).1, hideAll_none _ (List.mem_map_of_mem hq)⟩) fun v need' h' tk' st' N' P => ?_
  refine k v need' h' tk' ⟨⟨oL, es, ep, st' _ _ hLg, r⟩, fun b o e => st' _ _ (sg _ _ e), F.above⟩ (fun q hq => ?_) (fun n hn q hq e => ?_) P
  · rcases List.mem_append.mp hq with hq | hq
    · refine ⟨(N' q hq).1, fun e => ?_, ?_⟩
      · have := (N' q hq).2; rw [e, hLg] at this; cases this
      · cases e : h₀.get? q.1 with
        | none => rfl
        | some o => have := (N' q hq).2; rw [sg _ _ e] at this; cases this
    · exact ⟨st' _ _ (gr q hq), (N q (subr q hq)).2⟩
  · have h1 := (N' n hn).2
    rw [e, gr q hq] at h1; cases h1
end
end Mine

namespace Mine

structure Stop (P : Prop) : Prop where
  go : P

section
variable {prog : Program} {w : World} {A : Around} {E : Value → Shared → Prop} {s : Shared} {a b c : Int} {t u : Tok} {Q : Value → Shared → Prop}
theorem rshift_as (hn : 0 ≤ b) (hc : a.fdiv (2 ^ b.toNat) = c) (h : Q (.int c s.toks) { s with toks := s.toks + 1 }) : wpAny (model prog w) A (binaryOp .RShift (.int a t) (.int b u)) Q E s :=
  rshift_int hn (by rw [hc]; exact h)
theorem lshift_as (hn : 0 ≤ b) (hsz : (Builtin.Int.intBits a : Int) + b ≤ 2 ^ 27) (hc : a * 2 ^ b.toNat = c) (h : Q (.int c s.toks) { s with toks := s.toks + 1 }) : wpAny (model prog w) A (binaryOp .LShift (.int a t) (.int b u)) Q E s :=
  lshift_int hn hsz (by rw [hc]; exact h)
theorem xor_as (hc : Builtin.bitXor a b = c) (h : Q (.int c s.toks) { s with toks := s.toks + 1 }) : wpAny (model prog w) A (binaryOp .BitXor (.int a t) (.int b u)) Q E s :=
  xor_int (by rw [hc]; exact h)
theorem mul_as (hm : IntMulOk a b) (hc : a * b = c) (h : Q (.int c s.toks) { s with toks := s.toks + 1 }) : wpAny (model prog w) A (binaryOp .Mult (.int a t) (.int b u)) Q E s :=
  PyProof.Rows.mul_int (by rw [hc]; exact h) hm
end

/-! the numbers -/
theorem testBit_hi (x s i : Nat) : (x / 2 ^ s * 2 ^ s).testBit i = (decide (s ≤ i) && x.testBit i) := by
  rw [← Nat.shiftLeft_eq, Nat.testBit_shiftLeft]
  by_cases h : s ≤ i
  · simp only [h, decide_true, Bool.true_and]
    rw [← Nat.shiftRight_eq_div_pow, Nat.testBit_shiftRight]
    congr 1; omega
  · simp [h]
theorem xor_hi (x s : Nat) : Builtin.bitXor (x : Int) (((x / 2 ^ s * 2 ^ s : Nat)) : Int) = ((x % 2 ^ s : Nat) : Int) := by
  have h1 : x &&& (x / 2 ^ s * 2 ^ s) = x / 2 ^ s * 2 ^ s := by
    apply Nat.eq_of_testBit_eq
    intro i
    rw [Nat.testBit_and, testBit_hi]
    cases x.testBit i <;> simp
  have h2 : x ||| (x / 2 ^ s * 2 ^ s) = x := by
    apply Nat.eq_of_testBit_eq
    intro i
    rw [Nat.testBit_or, testBit_hi]
    cases x.testBit i <;> simp
  have e1 : Builtin.bitAnd (x : Int) (((x / 2 ^ s * 2 ^ s : Nat)) : Int) = ((x / 2 ^ s * 2 ^ s : Nat) : Int) := by
    unfold Builtin.bitAnd
    simp only [Int.natCast_nonneg, decide_true, Int.toNat_natCast]
    rw [h1]
  have e2 : Builtin.bitOr (x : Int) (((x / 2 ^ s * 2 ^ s : Nat)) : Int) = (x : Int) := by
    unfold Builtin.bitOr Builtin.bitAnd
    have n1 : decide (0 ≤ Builtin.bitNot (x : Int)) = false := by unfold Builtin.bitNot; exact decide_eq_false (by omega)
    have n2 : decide (0 ≤ Builtin.bitNot (((x / 2 ^ s * 2 ^ s : Nat)) : Int)) = false := by unfold Builtin.bitNot; exact decide_eq_false (by omega)
    rw [n1, n2]
    simp only [Builtin.bitNot]
    have f1 : (-(-(x : Int) - 1) - 1).toNat = x := by omega
    have f2 : (-(-((x / 2 ^ s * 2 ^ s : Nat) : Int) - 1) - 1).toNat = x / 2 ^ s * 2 ^ s := by omega
    rw [f1, f2, h2]
    omega
  unfold Builtin.bitXor
  rw [e1, e2]
  have := Nat.div_add_mod x (2 ^ s)
  have h3 : x / 2 ^ s * 2 ^ s + x % 2 ^ s = x := by rw [Nat.mul_comm]; exact this
  omega

/-- the number whose digits, the least first, are these -/
def val (n : Nat) : List Int → Int
  | [] => 0
  | d :: r => d + 2 ^ n * val n r
def Digs (n : Nat) (es : List Int) : Prop := ∀ e ∈ es, 0 ≤ e ∧ e < 2 ^ n

theorem val_append (n : Nat) (xs ys : List Int) : val n (xs ++ ys) = val n xs + 2 ^ (n * xs.length) * val n ys := by
  induction xs with
  | nil => simp [val]
  | cons d r ih =>
    simp only [List.cons_append, val, ih, List.length_cons]
    rw [Int.mul_add, ← Int.mul_assoc, ← Int.pow_add, Int.add_assoc]
    have : n + n * r.length = n * (r.length + 1) := by rw [Nat.mul_add]; omega
    rw [this]
theorem val_bounds {n : Nat} {es : List Int} (h : Digs n es) : 0 ≤ val n es ∧ val n es < 2 ^ (n * es.length) := by
  induction es with
  | nil => simp [val]
  | cons d r ih =>
    obtain ⟨h1, h2⟩ := ih fun e he => h e (.tail _ he)
    obtain ⟨d1, d2⟩ := h d (.head _)
    have hp : (0 : Int) < 2 ^ n := Int.pow_pos (by decide)
    have e : (2 : Int) ^ (n * (d :: r).length) = 2 ^ n * 2 ^ (n * r.length) := by
      rw [← Int.pow_add]; congr 1; simp only [List.length_cons]; rw [Nat.mul_add]; omega
    constructor
    · exact Int.add_nonneg d1 (Int.mul_nonneg (Int.le_of_lt hp) h1)
    · rw [e]
      simp only [val]
      have : 2 ^ n * (val n r + 1) ≤ 2 ^ n * 2 ^ (n * r.length) := Int.mul_le_mul_of_nonneg_left (by omega) (Int.le_of_lt hp)
      rw [Int.mul_add, Int.mul_one] at this
      omega

theorem splice {α : Type} (ds es1 es2 : List α) (l k1 k2 : Nat) (h1 : es1.length = k1) (_h2 : es2.length = k2) (hl : l + k1 + k2 ≤ ds.length) :
    ((ds.take l ++ es1 ++ ds.drop (l + k1)).take (l + k1) ++ es2 ++ (ds.take l ++ es1 ++ ds.drop (l + k1)).drop (l + k1 + k2)) = ds.take l ++ (es1 ++ es2) ++ ds.drop (l + k1 + k2) := by
  have a1 : (ds.take l ++ es1).length = l + k1 := by simp [h1]; omega
  rw [List.take_append_of_le_length (by omega), List.take_of_length_le (by omega)]
  rw [List.drop_append, List.drop_of_length_le (by omega), List.nil_append, a1]
  rw [List.drop_drop]
  have : l + k1 + (l + k1 + k2 - (l + k1)) = l + k1 + k2 := by omega
  rw [this]
  simp only [List.append_assoc]
theorem splice_length {α : Type} (ds es : List α) (l k : Nat) (h : es.length = k) (hl : l + k ≤ ds.length) : (ds.take l ++ es ++ ds.drop (l + k)).length = ds.length := by
  simp [h]; omega
theorem set_splice {α : Type} (ds : List α) (l : Nat) (x : α) (hl : l < ds.length) : ds.set l x = ds.take l ++ [x] ++ ds.drop (l + 1) := by
  rw [List.set_eq_take_append_cons_drop, if_pos hl]
  simp

theorem halves {xn n k k1 k2 : Nat} (hkk : k + 1 = (k1 + 1) + (k2 + 1)) (hx : (xn : Int) < 2 ^ (n * (k + 1))) :
    ((xn / 2 ^ (n * (k1 + 1)) : Nat) : Int) < 2 ^ (n * (k2 + 1)) ∧ ((xn % 2 ^ (n * (k1 + 1)) : Nat) : Int) < 2 ^ (n * (k1 + 1)) := by
  have hx' : xn < 2 ^ (n * (k + 1)) := by exact_mod_cast hx
  have e : 2 ^ (n * (k + 1)) = 2 ^ (n * (k1 + 1)) * 2 ^ (n * (k2 + 1)) := by rw [hkk, Nat.mul_add, Nat.pow_add]
  rw [e] at hx'
  constructor
  · exact_mod_cast Nat.div_lt_of_lt_mul hx'
  · exact_mod_cast Nat.mod_lt _ (Nat.pow_pos (by decide))
theorem bits_lt_pow {x : Nat} {m c : Nat} (h : (x : Int) < 2 ^ m) (hm : m ≤ c) : Builtin.Int.intBits (x : Int) ≤ c := by
  refine PySem.intBits_le_iff.mpr ?_
  have : x < 2 ^ m := by exact_mod_cast h
  rw [Int.natAbs_natCast]
  exact Nat.lt_of_lt_of_le this (Nat.pow_le_pow_right (by decide) hm)
theorem val_halves {n k1 xn : Nat} {es1 es2 : List Int} (e1 : es1.length = k1 + 1) (v1 : val n es1 = ((xn % 2 ^ (n * (k1 + 1)) : Nat) : Int)) (v2 : val n es2 = ((xn / 2 ^ (n * (k1 + 1)) : Nat) : Int)) :
    val n (es1 ++ es2) = (xn : Int) := by
  rw [val_append, v1, v2, e1]
  have := Nat.mod_add_div xn (2 ^ (n * (k1 + 1)))
  exact_mod_cast this
theorem Digs.append {n : Nat} {a b : List Int} (ha : Digs n a) (hb : Digs n b) : Digs n (a ++ b) := fun e he => (List.mem_append.mp he).elim (ha e) (hb e)

/-- the k + 1 digits from place l on -/
def cut {α : Type} (ds : List α) (l k : Nat) : List α := (ds.drop l).take k
theorem cut_add {α : Type} (ds : List α) (l a b : Nat) : cut ds l (a + b) = cut ds l a ++ cut ds (l + a) b := by
  unfold cut
  rw [List.take_add, List.drop_drop]
theorem cut_one (ds : List Int) (l : Nat) (h : l < ds.length) : cut ds l 1 = [ds.getD l 0] := by
  unfold cut
  rw [List.drop_eq_getElem_cons h, List.take_succ_cons, List.take_zero, List.getD_eq_getElem?_getD, List.getElem?_eq_getElem h]
  rfl
theorem cut_length {α : Type} (ds : List α) (l k : Nat) (h : l + k ≤ ds.length) : (cut ds l k).length = k := by
  unfold cut; simp; omega
theorem Digs.cut {n : Nat} {ds : List Int} (h : Digs n ds) (l k : Nat) : Digs n (cut ds l k) := fun e he => h e (List.mem_of_mem_drop (List.mem_of_mem_take he))
theorem cut_all {α : Type} (ds : List α) : cut ds 0 ds.length = ds := by unfold cut; simp

theorem count_digits {a : Int} {n m : Nat} (ha : 0 ≤ a) (hn : 1 ≤ n) (hb : (Builtin.Int.intBits a : Int) ≤ 50) (hm : ((Builtin.Int.intBits a : Int) + n - 1).fdiv n = (m : Int)) :
    m ≤ 100 ∧ (a ≠ 0 → 0 < m) ∧ a < 2 ^ (n * m) := by
  obtain ⟨b, hbb⟩ : ∃ b : Nat, b = Builtin.Int.intBits a := ⟨_, rfl⟩
  rw [← hbb] at hb hm
  rw [Int.fdiv_eq_ediv_of_nonneg _ (by omega)] at hm
  have e1 : (b : Int) + n - 1 = ((b + n - 1 : Nat) : Int) := by omega
  rw [e1] at hm
  have hm' : (b + n - 1) / n = m := by exact_mod_cast hm
  have h1 := Nat.div_add_mod (b + n - 1) n
  have h2 := Nat.mod_lt (b + n - 1) (show n > 0 by omega)
  rw [hm'] at h1
  have h3 : b ≤ n * m := by omega
  have h4 : m ≤ n * m := Nat.le_mul_of_pos_left m (by omega)
  have h5 : a.natAbs < 2 ^ b := PySem.intBits_le_iff.mp (by omega)
  have h6 : a.natAbs < 2 ^ (n * m) := Nat.lt_of_lt_of_le h5 (Nat.pow_le_pow_right (by decide) h3)
  have hmb : m ≤ 50 + 1 := by
    rw [← hm']
    have : (b + n - 1) / n ≤ (b * n + n - 1) / n := Nat.div_le_div_right (by have := Nat.le_mul_of_pos_right b (show 0 < n by omega); omega)
    have e2 : (b * n + n - 1) / n ≤ (b * n + n) / n := Nat.div_le_div_right (by omega)
    have e3 : (b * n + n) / n = b + 1 := by rw [Nat.add_div_right _ (by omega), Nat.mul_div_cancel _ (by omega)]
    omega
  refine ⟨by omega, fun hne => ?_, ?_⟩
  · rcases Nat.eq_zero_or_pos m with h | h
    · rw [h] at h6; simp at h6; omega
    · exact h
  · have : ((a.natAbs : Nat) : Int) < 2 ^ (n * m) := by exact_mod_cast h6
    omega
theorem val_zeros (n m : Nat) : val n (List.replicate m 0) = 0 := by
  induction m with
  | zero => rfl
  | succ m ih => rw [List.replicate_succ]; simp [val, ih]
theorem digs_zeros (n m : Nat) : Digs n (List.replicate m 0) := fun e he => by
  rw [(List.mem_replicate.mp he).2]
  exact ⟨Int.le_refl _, Int.pow_pos (by decide)⟩
end Mine

namespace Mine
abbrev tup2 (a b : Int) (t u : Tok) : Obj := { cls := .type "tuple", data := .seq #[.int a t, .int b u] }

/-- what a call hands back that makes one pair of ints -/
def IsPair (q r : Int) (v : Value) (nd : List (Addr × Obj)) : Prop := ∃ t t1 t2, v = .ref t ∧ nd = [(t, tup2 q r t1 t2)]
theorem IsPair.of {q r q' r' : Int} {t : Addr} {t1 t2 : Tok} (hq : q' = q) (hr : r' = r) : IsPair q r (.ref t) [(t, tup2 q' r' t1 t2)] := by
  subst hq hr; exact ⟨t, t1, t2, rfl, rfl⟩

section
variable {w : World} {p : Program} {loose : List Str} {mean : ExcName → Option Value} {mg mb : Str → Option Value}

local macro_rules | `(tactic| walk_at "filler 0") => `(tactic| fail)
theorem div2n1n {a b n : Int} {ta tb tn : Tok} (ha : 0 ≤ a) (ha' : a < 2 ^ 20) (hb : 0 < b) (hb' : b < 2 ^ 20) (hn : 0 ≤ n) (hn' : n ≤ 100) :
    Spec w p loose mean mg mb 3 20 21 [.int a ta, .int b tb, .int n tn] (fun _ => True) [] (IsPair (a / b) (a % b)) := by
  unfold Spec
  w_top off
  k_fill
  have hbits : (Builtin.Int.intBits a : Int) ≤ 20 := by
    have := (PySem.intBits_le_iff (m := 20) (x := a)).mpr (by omega)
    omega
  intro dp un gd env outer base g s Q E B X T C1 C2 hG hdp hun st hsz N hQ
  refine enter_plain X T st hsz N (by k_is) (by k_is) (by omega) (BindsTo.of_eq rfl) (locs rfl) ?_ rfl rfl rfl (by decide)
  intro L h₁ F' N' hlt
  dsimp only
  (try k_fold)
  k_steps
  exact fin_use hQ (by assumption) (by assumption) (IsPair.of (Int.fdiv_eq_ediv_of_nonneg _ (by omega)) (Int.fmod_eq_emod_of_nonneg _ (by omega)))
end
end Mine

namespace Mine
/-- the def that stands at place i in the body of the top's def at place k -/
def defIn (k i : Nat) : Option Stmt := match PySem.Challenge.pw_zt0003_01.main.body[k]? with
  | some (.FunctionDef _ _ body _ _ _ _ _ _ _) => body[i]?
  | _ => none

section
variable {w : World} {p : Program} {loose : List Str} {mean : ExcName → Option Value} {mg mb : Str → Option Value}

local macro_rules | `(tactic| walk_at "binaryOp RShift int int") => `(tactic| ((with_reducible refine' rshift_as ?k1 ?k2 ?_); (case k1 => omega); (case k2 => assumption)))
local macro_rules | `(tactic| walk_at "binaryOp LShift int int") => `(tactic| ((with_reducible refine' lshift_as ?k1 ?k3 ?k2 ?_); (case k1 => omega); (case k2 => assumption); (case k3 => omega)))
local macro_rules | `(tactic| walk_at "binaryOp BitXor int int") => `(tactic| ((with_reducible refine' xor_as ?k2 ?_); (case k2 => assumption)))
local macro_rules | `(tactic| walk_at "binaryOp Mult int int") => `(tactic| ((with_reducible refine' mul_as ?k1 ?k2 ?_); (case k1 => assumption); (case k2 => assumption)))
local macro_rules | `(tactic| walk_at "call ref") => `(tactic| refine Stop.go ?_)

def InnerPost (led : Obj → List (Addr × Obj)) (n : Nat) (ds : List Int) (x : Int) (l k : Nat) (v : Value) (nd : List (Addr × Obj)) : Prop :=
  v = .none ∧ ∃ vs ep es, nd = led (listOf (List.toArray vs) ep) ∧ es.length = k + 1 ∧ Digs n es ∧ val n es = x ∧ IntsAre vs (ds.take l ++ es ++ ds.drop (l + (k + 1)))

theorem inner1 {name : Str} {params : Arguments} {body : List Stmt} {scope : Scope} {b : Str} {pos : Pos} (hdef : defIn 4 1 = some (.FunctionDef name params body [] none [] scope none b pos))
    {f c' cI cA cN D : Addr} {doc pm ctv : Value} {oc oI oA oN : Obj} {cvs : Array Value} {qt tn : Tok} {qual : Str} {n : Nat} (hn : 1 ≤ n) (hn' : n ≤ 4)
    (hcd : oc.data = .fields cvs) (hcq : cvs[1]? = some (.str qual qt)) (hI : oI.data = .cell (some (.ref f))) (hA : oA.data = .cell (some (.ref D))) (hN : oN.data = .cell (some (.int (n : Int) tn)))
    (hne : f ≠ D ∧ c' ≠ D ∧ cI ≠ D ∧ cA ≠ D ∧ cN ≠ D) (k : Nat) : ∀ (x : Int) (l : Nat) (r : Int) (tx tl tr : Tok) (vs : List Value) (ep : Nat) (ds : List Int), IntsAre vs ds → (l : Int) + k + 1 = r → r ≤ ds.length → ds.length ≤ 100 → 0 ≤ x → x < 2 ^ (n * (k + 1)) →
    Spec w p loose mean mg mb (k + 3) (30 * k + 100) f [.int x tx, .int (l : Int) tl, .int r tr] (fun _ => True) [(f, fnMade name qual params body scope [(Str.ofString "n", cN), (Str.ofString "inner", cI), (Str.ofString "a_digits", cA)] doc pm c' ctv), (c', oc), (cI, oI), (cA, oA), (cN, oN), (D, listOf vs.toArray ep)]
      (InnerPost (fun o => [(f, fnMade name qual params body scope [(Str.ofString "n", cN), (Str.ofString "inner", cI), (Str.ofString "a_digits", cA)] doc pm c' ctv), (c', oc), (cI, oI), (cA, oA), (cN, oN), (D, o)]) n ds x l k) := by
  with_unfolding_all injection hdef with hdef
  with_unfolding_all injection hdef with hdef
  subst_vars
  obtain ⟨ne1, ne2, ne3, ne4, ne5⟩ := hne
  induction k using Nat.strongRecOn with
  | ind k IH =>
  intro x l r tx tl tr vs ep ds hvs hr hrd hdl hx hx'
  unfold Spec
  w_top off
  k_fill
  intro dp un gd env outer base g s Q E B X T C1 C2 hG hdp hun st hsz N hQ
  rcases Nat.eq_zero_or_pos k with hk0 | hk0
  · subst hk0
    have hr' : (l : Int) + 1 = r := by omega
    have hbr : (((l : Int) + 1) == r) = true := beq_iff_eq.mpr hr'
    have hlt' : (l : Int) < ds.length := by omega
    have hl0 : (0 : Int) ≤ l := by omega
    refine enter_nest T st hsz N (.head _) (.tail _ (.head _)) hcd hcq (by omega) (BindsTo.of_eq rfl) (locs rfl) ?_ rfl rfl rfl (by decide)
    intro L h₁ F' N' hlt
    k_lt hlt
    clear hr IH
    (try dsimp only)
    (try k_fold)
    k_steps
    dsimp only
    have hx0 : x < 2 ^ n := by simpa using hx'
    have hi := set_splice ds l x (by omega)
    rename IntsAre (vs.set _ _) _ => hi2
    rw [Int.toNat_natCast, hi] at hi2
    exact fin_use hQ (by assumption) (by assumption) ⟨rfl, _, _, [x], rfl, rfl, (fun e he => by rw [List.mem_singleton.mp he]; exact ⟨hx, hx0⟩), (by simp [val]), hi2⟩
  obtain ⟨k1, k2, hk1, hk2, hkk, hka⟩ : ∃ k1 k2 : Nat, k1 < k ∧ k2 < k ∧ k + 1 = (k1 + 1) + (k2 + 1) ∧ (k + 1) / 2 = k1 + 1 := ⟨(k + 1) / 2 - 1, k - (k + 1) / 2, by omega, by omega, by omega, by omega⟩
  have hbr : (((l : Int) + 1) == r) = false := beq_eq_false_iff_ne.mpr (by omega)
  have hmid : ((l : Int) + r).fdiv (2 ^ Int.toNat 1) = ((l + (k1 + 1) : Nat) : Int) := by
    rw [Int.fdiv_eq_ediv_of_nonneg _ (by decide)]
    show ((l : Int) + r) / 2 = _
    omega
  obtain ⟨sh, hshd⟩ : ∃ sh : Nat, sh = n * (k1 + 1) := ⟨_, rfl⟩
  have hsh : (((l + (k1 + 1) : Nat) : Int) - (l : Int)) * (n : Int) = (sh : Int) := by
    have : (((l + (k1 + 1) : Nat) : Int) - (l : Int)) = ((k1 + 1 : Nat) : Int) := by omega
    rw [this, hshd, ← Int.natCast_mul, Nat.mul_comm]
  have hmo : IntMulOk (((l + (k1 + 1) : Nat) : Int) - (l : Int)) (n : Int) := IntMulOk.of_left (by
    refine (PySem.intBits_le_iff (m := 64)).mpr ?_
    omega)
  obtain ⟨xn, hxn⟩ : ∃ xn : Nat, x = (xn : Int) := ⟨x.toNat, by omega⟩
  have hup : x.fdiv (2 ^ (sh : Int).toNat) = ((xn / 2 ^ sh : Nat) : Int) := by
    rw [Int.fdiv_eq_ediv_of_nonneg _ (Int.le_of_lt (Int.pow_pos (by decide))), hxn, Int.toNat_natCast]
    norm_cast
  have hbk : ((xn / 2 ^ sh : Nat) : Int) * 2 ^ (sh : Int).toNat = ((xn / 2 ^ sh * 2 ^ sh : Nat) : Int) := by
    rw [Int.toNat_natCast]; norm_cast
  have hlo : Builtin.bitXor x ((xn / 2 ^ sh * 2 ^ sh : Nat) : Int) = ((xn % 2 ^ sh : Nat) : Int) := by rw [hxn]; exact xor_hi xn sh
  obtain ⟨hup0, hlo0⟩ : ((xn / 2 ^ sh : Nat) : Int) < 2 ^ (n * (k2 + 1)) ∧ ((xn % 2 ^ sh : Nat) : Int) < 2 ^ (n * (k1 + 1)) := by rw [hshd]; exact halves hkk (hxn ▸ hx')
  have hsl : (Builtin.Int.intBits ((xn / 2 ^ sh : Nat) : Int) : Int) + sh ≤ 2 ^ 27 := by
    have b1 : n * (k2 + 1) ≤ 4 * 101 := Nat.mul_le_mul hn' (by omega)
    have b2 : n * (k1 + 1) ≤ 4 * 101 := Nat.mul_le_mul hn' (by omega)
    have b3 := bits_lt_pow hup0 (c := 1000) (by omega)
    omega
  refine enter_nest T st hsz N (.head _) (.tail _ (.head _)) hcd hcq (by omega) (BindsTo.of_eq rfl) (locs rfl) ?_ rfl rfl rfl (by decide)
  intro L h₁ F' N' hlt
  k_lt hlt
  (try dsimp only)
  (try k_fold)
  k_steps
  refine ⟨Spec.use (rest := []) (IH k1 hk1 _ l _ _ _ _ vs ep ds hvs (by omega) (by omega) hdl (Int.natCast_nonneg _) hlo0) rfl B (by assumption) rfl rfl X T C1 C2 (by assumption) (fun _ h => h) (fun _ h => nomatch h) (fun _ h => nomatch h) (fun _ _ _ => trivial) (by dsimp only; omega) (by dsimp only; omega) ?_⟩
  rintro v nd h2 tk2 F2 N2 - ⟨rfl, vs1, ep1, es1, rfl, el1, dg1, ev1, hi1⟩
  simp only [List.append_nil] at N2
  (try dsimp only)
  (try k_fold)
  k_steps
  have hlen1 := splice_length ds es1 l (k1 + 1) el1 (by omega)
  refine ⟨Spec.use (rest := []) (IH k2 hk2 _ (l + (k1 + 1)) _ _ _ _ vs1 ep1 _ hi1 (by omega) (by omega) (by omega) (Int.natCast_nonneg _) hup0) rfl B (by assumption) rfl rfl X T C1 C2 (by assumption) (fun _ h => h) (fun _ h => nomatch h) (fun _ h => nomatch h) (fun _ _ _ => trivial) (by dsimp only; omega) (by dsimp only; omega) ?_⟩
  rintro v nd h3 tk3 F3 N3 - ⟨rfl, vs2, ep2, es2, rfl, el2, dg2, ev2, hi2⟩
  simp only [List.append_nil] at N3
  (try dsimp only)
  (try k_fold)
  k_steps
  (try dsimp only)
  rw [splice ds es1 es2 l (k1 + 1) (k2 + 1) el1 el2 (by omega)] at hi2
  have e9 : l + (k1 + 1) + (k2 + 1) = l + (k + 1) := by omega
  rw [e9] at hi2
  rw [hshd] at ev1 ev2
  exact fin_use hQ (by assumption) (by assumption) ⟨rfl, _, _, _, rfl, by rw [List.length_append]; omega, dg1.append dg2, by rw [hxn]; exact val_halves el1 ev1 ev2, hi2⟩
end
end Mine

namespace Mine

section
variable {w : World} {p : Program} {loose : List Str} {mean : ExcName → Option Value} {mg mb : Str → Option Value}

local macro_rules | `(tactic| walk_at "binaryOp RShift int int") => `(tactic| ((with_reducible refine' rshift_as ?k1 ?k2 ?_); (case k1 => omega); (case k2 => assumption)))
local macro_rules | `(tactic| walk_at "binaryOp LShift int int") => `(tactic| ((with_reducible refine' lshift_as ?k1 ?k3 ?k2 ?_); (case k1 => omega); (case k2 => assumption); (case k3 => omega)))
local macro_rules | `(tactic| walk_at "binaryOp Mult int int") => `(tactic| ((with_reducible refine' mul_as ?k1 ?k2 ?_); (case k1 => assumption); (case k2 => assumption)))
local macro_rules | `(tactic| walk_at "call ref") => `(tactic| refine Stop.go ?_)

/-- what a call hands back that makes nothing: an int -/
def IsNum (z : Int) (led : List (Addr × Obj)) (v : Value) (nd : List (Addr × Obj)) : Prop := nd = led ∧ ∃ t, v = .int z t
theorem IsNum.of {z z' : Int} {led : List (Addr × Obj)} {t : Tok} (h : z' = z) : IsNum z led (.int z' t) led := by subst h; exact ⟨rfl, t, rfl⟩

theorem inner2 {name : Str} {params : Arguments} {body : List Stmt} {scope : Scope} {b : Str} {pos : Pos} (hdef : defIn 5 0 = some (.FunctionDef name params body [] none [] scope none b pos))
    {f c' cI cA cN D : Addr} {doc pm ctv : Value} {oc oI oA oN : Obj} {cvs : Array Value} {qt tn : Tok} {qual : Str} {n : Nat} (hn' : n ≤ 4)
    (hcd : oc.data = .fields cvs) (hcq : cvs[1]? = some (.str qual qt)) (hI : oI.data = .cell (some (.ref f))) (hA : oA.data = .cell (some (.ref D))) (hN : oN.data = .cell (some (.int (n : Int) tn)))
    {vs : List Value} {ep : Nat} {ds : List Int} (hvs : IntsAre vs ds) (hdl : ds.length ≤ 100) (hds : Digs n ds)
    (k : Nat) : ∀ (l : Nat) (r : Int) (tl tr : Tok), (l : Int) + k + 1 = r → r ≤ ds.length →
    Spec w p loose mean mg mb (k + 3) (30 * k + 100) f [.int (l : Int) tl, .int r tr] (fun _ => True) [(f, fnMade name qual params body scope [(Str.ofString "n", cN), (Str.ofString "inner", cI), (Str.ofString "digits", cA)] doc pm c' ctv), (c', oc), (cI, oI), (cA, oA), (cN, oN), (D, listOf vs.toArray ep)]
      (IsNum (val n (cut ds l (k + 1))) [(f, fnMade name qual params body scope [(Str.ofString "n", cN), (Str.ofString "inner", cI), (Str.ofString "digits", cA)] doc pm c' ctv), (c', oc), (cI, oI), (cA, oA), (cN, oN), (D, listOf vs.toArray ep)]) := by
  with_unfolding_all injection hdef with hdef
  with_unfolding_all injection hdef with hdef
  subst_vars
  induction k using Nat.strongRecOn with
  | ind k IH =>
  intro l r tl tr hr hrd
  unfold Spec
  w_top off
  k_fill
  intro dp un gd env outer base g s Q E B X T C1 C2 hG hdp hun st hsz N hQ
  rcases Nat.eq_zero_or_pos k with hk0 | hk0
  · subst hk0
    have hr' : (l : Int) + 1 = r := by omega
    have hbr : (((l : Int) + 1) == r) = true := beq_iff_eq.mpr hr'
    have hlt' : (l : Int) < ds.length := by omega
    have hl0 : (0 : Int) ≤ l := by omega
    refine enter_nest T st hsz N (.head _) (.tail _ (.head _)) hcd hcq (by omega) (BindsTo.of_eq rfl) (locs rfl) ?_ rfl rfl rfl (by decide)
    intro L h₁ F' N' hlt
    k_lt hlt
    clear hr IH
    (try dsimp only)
    (try k_fold)
    k_steps
    (try dsimp only)
    exact fin_use hQ (by assumption) (by assumption) (IsNum.of (by rw [Int.toNat_natCast, Nat.zero_add, cut_one _ _ (by omega)]; simp [val]))
  obtain ⟨k1, k2, hk1, hk2, hkk, hka⟩ : ∃ k1 k2 : Nat, k1 < k ∧ k2 < k ∧ k + 1 = (k1 + 1) + (k2 + 1) ∧ (k + 1) / 2 = k1 + 1 := ⟨(k + 1) / 2 - 1, k - (k + 1) / 2, by omega, by omega, by omega, by omega⟩
  have hbr : (((l : Int) + 1) == r) = false := beq_eq_false_iff_ne.mpr (by omega)
  have hmid : ((l : Int) + r).fdiv (2 ^ Int.toNat 1) = ((l + (k1 + 1) : Nat) : Int) := by
    rw [Int.fdiv_eq_ediv_of_nonneg _ (by decide)]
    show ((l : Int) + r) / 2 = _
    omega
  obtain ⟨sh, hshd⟩ : ∃ sh : Nat, sh = n * (k1 + 1) := ⟨_, rfl⟩
  have hsh : (((l + (k1 + 1) : Nat) : Int) - (l : Int)) * (n : Int) = (sh : Int) := by
    have : (((l + (k1 + 1) : Nat) : Int) - (l : Int)) = ((k1 + 1 : Nat) : Int) := by omega
    rw [this, hshd, ← Int.natCast_mul, Nat.mul_comm]
  have hmo : IntMulOk (((l + (k1 + 1) : Nat) : Int) - (l : Int)) (n : Int) := IntMulOk.of_left (by
    refine (PySem.intBits_le_iff (m := 64)).mpr ?_
    omega)
  obtain ⟨z2, hz2⟩ : ∃ z2, z2 = val n (cut ds (l + (k1 + 1)) (k2 + 1)) := ⟨_, rfl⟩
  have hbk : z2 * 2 ^ (sh : Int).toNat = z2 * 2 ^ sh := by rw [Int.toNat_natCast]
  have hsl : (Builtin.Int.intBits z2 : Int) + sh ≤ 2 ^ 27 := by
    have b1 : n * (k2 + 1) ≤ 4 * 101 := Nat.mul_le_mul hn' (by omega)
    have b2 : n * (k1 + 1) ≤ 4 * 101 := Nat.mul_le_mul hn' (by omega)
    have b4 := val_bounds (hds.cut (l + (k1 + 1)) (k2 + 1))
    rw [cut_length _ _ _ (by omega), ← hz2] at b4
    obtain ⟨zn, hzn⟩ : ∃ zn : Nat, z2 = (zn : Int) := ⟨z2.toNat, by omega⟩
    have b3 := bits_lt_pow (x := zn) (hzn ▸ b4.2) (c := 1000) (by omega)
    rw [hzn]
    omega
  refine enter_nest T st hsz N (.head _) (.tail _ (.head _)) hcd hcq (by omega) (BindsTo.of_eq rfl) (locs rfl) ?_ rfl rfl rfl (by decide)
  intro L h₁ F' N' hlt
  k_lt hlt
  (try dsimp only)
  (try k_fold)
  k_steps
  refine ⟨Spec.use (rest := []) (IH k2 hk2 (l + (k1 + 1)) _ _ _ (by omega) (by omega)) rfl B (by assumption) rfl rfl X T C1 C2 (by assumption) (fun _ h => h) (fun _ h => nomatch h) (fun _ h => nomatch h) (fun _ _ _ => trivial) (by dsimp only; omega) (by dsimp only; omega) ?_⟩
  rintro v nd h2 tk2 F2 N2 - ⟨rfl, t2, rfl⟩
  simp only [List.append_nil] at N2
  rw [← hz2]
  (try dsimp only)
  (try k_fold)
  k_steps
  refine ⟨Spec.use (rest := []) (IH k1 hk1 l _ _ _ (by omega) (by omega)) rfl B (by assumption) rfl rfl X T C1 C2 (by assumption) (fun _ h => h) (fun _ h => nomatch h) (fun _ h => nomatch h) (fun _ _ _ => trivial) (by dsimp only; omega) (by dsimp only; omega) ?_⟩
  rintro v nd h3 tk3 F3 N3 - ⟨rfl, t3, rfl⟩
  simp only [List.append_nil] at N3
  (try dsimp only)
  (try k_fold)
  k_steps
  (try dsimp only)
  refine fin_use hQ (by assumption) (by assumption) (IsNum.of ?_)
  rw [hkk, cut_add ds l (k1 + 1) (k2 + 1), val_append, cut_length ds l (k1 + 1) (by omega), hz2, hshd]
  rw [Int.mul_comm, Int.add_comm]
end
end Mine

namespace Mine

/-- the table of the defs that a def has made: nothing yet, or its one code -/
inductive Tab (P : Addr) (pos : Pos) (qual : Str) : List (Addr × Obj) → Prop
  | empty : Tab P pos qual [(P, tabObj #[])]
  | full {c' : Addr} {oc : Obj} {cvs : Array Value} {qt : Tok} : oc.data = .fields cvs → cvs[1]? = some (.str qual qt) → c' ≠ P → Tab P pos qual [(P, tabObj #[rawInt pos.line, rawInt pos.col, .ref c']), (c', oc)]

section
variable {prog : Program} {w : World} {A : Around} {E : Value → Shared → Prop} {s : Shared} {h₀ : Heap} {L : Addr} {mm : Str → Option Value} {news : List (Addr × Obj)} {Q : Value → Shared → Prop}
theorem ints_zeros (t : Tok) : ∀ m : Nat, IntsAre (List.replicate m [Value.int 0 t]).flatten (List.replicate m 0)
  | 0 => .nil
  | m + 1 => by
    rw [List.replicate_succ, List.flatten_cons, List.replicate_succ]
    exact .cons 0 t (ints_zeros t m)
theorem mul_zeros {l : Addr} {t u : Tok} {ep m : Nat} (F : Fr h₀ L s.heap mm) (N : News h₀ L s.heap news) (hl : (l, listOf #[.int 0 t] ep) ∈ news) (hm : m ≤ 200)
    (h : ∀ ws D h', IntsAre ws (List.replicate m 0) → ws.length = m → Fr h₀ L h' mm → News h₀ L h' ((D, listOf ws.toArray 0) :: news) → (∀ p ∈ news, p.1 < D) → Q (.ref D) { s with heap := h' }) :
    wpAny (model prog w) A (binaryOp .Mult (.ref l) (.int (m : Int) u)) Q E s :=
  KMa.mul F N (vs := [.int 0 t]) ⟨_, (N _ hl).1, rfl, ep, rfl⟩ (by omega) (by omega) (by simp; omega) rfl fun D h' F' N' lt => by
    rw [Int.toNat_natCast] at N'
    exact h _ D h' (ints_zeros t m) ((ints_zeros t m).length.trans (by simp)) F' N' lt
theorem len_as {l : Addr} {vs : List Value} {ep m : Nat} (N : News h₀ L s.heap news) (hl : (l, listOf vs.toArray ep) ∈ news) (he : vs.length = m) (hm : m ≤ 1000000)
    (h : Q (.int (m : Int) (s.toks + 1)) { s with toks := s.toks + 1 + 1 }) : wpAny (model prog w) A (call (.builtin "len") [.ref l]) Q E s :=
  len_list (items := vs.toArray) ⟨_, (N _ hl).1, rfl, ep, rfl⟩ (by rw [List.size_toArray, he]; omega) (by rw [List.size_toArray, he]; exact h)
theorem floordiv_as {a b c : Int} {t u : Tok} (hb : b ≠ 0) (hc : a.fdiv b = c) (hp : Builtin.divisionGoesByPylong a b = false) (h : Q (.int c s.toks) { s with toks := s.toks + 1 }) : wpAny (model prog w) A (binaryOp .FloorDiv (.int a t) (.int b u)) Q E s :=
  PyProof.Rows.floordiv_int hb (by rw [hc]; exact h) (.inl hp)
end
section
variable {w : World} {p : Program} {loose : List Str} {mean : ExcName → Option Value} {mg mb : Str → Option Value}
local macro_rules | `(tactic| walk_at "filler 0") => `(tactic| fail)
local macro_rules | `(tactic| walk_at "binaryOp FloorDiv int int") => `(tactic| ((with_reducible refine' floordiv_as ?k1 ?k2 ?k3 ?_); (case k1 => assumption); (case k2 => assumption); (case k3 => assumption)))
local macro_rules | `(tactic| walk_at "binaryOp Mult ref int") => `(tactic| ((refine' mul_zeros ?k1 ?k2 ?k3 ?k4 ?_); (case k1 => k_asm); (case k2 => k_asm); (case k3 => k_mem); (case k4 => assumption); intro ws9 D9 h9 i9 e9 F9 N9 l9; k_lt l9; k_sweep))
local macro_rules | `(tactic| walk_at "call builtin:len") => `(tactic| ((refine' len_as ?k1 ?k2 ?k3 ?k4 ?_); (case k1 => k_asm); (case k2 => k_mem); (case k3 => assumption); (case k4 => omega)))
local macro_rules | `(tactic| walk_at "call ref") => `(tactic| refine Stop.go ?_)

/-- a fresh list of the digits of a beside the def's table -/
def IsDigits (n : Nat) (a : Int) (P : Addr) (pos : Pos) (qual : Str) (v : Value) (nd : List (Addr × Obj)) : Prop :=
  ∃ D vs ep es tb, v = .ref D ∧ nd = (D, listOf (List.toArray vs) ep) :: tb ∧ Tab P pos qual tb ∧ IntsAre vs es ∧ es.length ≤ 100 ∧ Digs n es ∧ val n es = a

theorem i2d {a : Int} {n m : Nat} {ta tn : Tok} (ha : 0 ≤ a) (hn : 1 ≤ n) (hn' : n ≤ 4) (hb : (Builtin.Int.intBits a : Int) ≤ 50)
   (hm : ((Builtin.Int.intBits a : Int) + n - 1).fdiv n = (m : Int))  {tb : List (Addr × Obj)} (ht : Tab 30 ⟨32, 4, 0, 0⟩ (Str.ofString "_int2digits.<locals>.inner") tb) :
    Spec w p loose mean mg mb 120 4000 35 [.int a ta, .int (n : Int) tn] (fun _ => True) tb (IsDigits n a 30 ⟨32, 4, 0, 0⟩ (Str.ofString "_int2digits.<locals>.inner")) := by
  unfold Spec
  w_top off
  k_fill
  intro dp un gd env outer base g s Q E B X T C1 C2 hG hdp hun st hsz N hQ
  have hn0 : (n : Int) ≠ 0 := by omega
  have hpl : Builtin.divisionGoesByPylong ((Builtin.Int.intBits a : Int) + n - 1) n = false := PyProof.noPylong_small (by omega)
  obtain ⟨hm', hap, ham⟩ : m ≤ 100 ∧ (a ≠ 0 → 0 < m) ∧ a < 2 ^ (n * m) := count_digits ha hn hb hm
  have hm2 : m ≤ 200 := by omega
  cases ht with
  | empty =>
    refine enter_cells X T st hsz N (by k_is) (by k_is) (by omega) (BindsTo.of_eq rfl) rfl (by decide +kernel) ?_ rfl rfl rfl
    intro L h₁ tk cells F' N' Y hlt
    k_lt hlt
    k_cells Y
    simp only [List.cons_append, List.nil_append] at N'
    (try k_fold)
    k_steps
    · rename_i ws D h9 i9 e9 l9 hA oA dA f c oc cvs qt ctv doc hB tkB d1 d2 l1 l2 hC oI F7 N7 dI ane
      have hap' := hap ane
      have hne9 : f ≠ D ∧ c ≠ D ∧ (L+1+1+1) ≠ D ∧ (L+1+1) ≠ D ∧ (L+1) ≠ D := ⟨neN (by omega), neN (by omega), neN (by omega), neN (by omega), neN (by omega)⟩
      obtain ⟨k, rfl⟩ : ∃ k, m = k + 1 := ⟨m - 1, by omega⟩
      refine Stop.mk ?_
      refine' Spec.use (rest := [(30, tabObj _)]) (inner1 (cI := L + 1 + 1 + 1) (cA := L + 1 + 1) (cN := L + 1) (D := D) (c' := c) (by rfl) hn hn' d1 d2 dI dA (by assumption) hne9 k a 0 _ _ _ _ _ _ _ i9 (by omega) (by simp) (by simp; omega) ha ham) rfl B F7 rfl rfl X T C1 C2 N7 ?sub ?subr ?off (fun _ _ _ => trivial) (by dsimp only; omega) (by dsimp only; omega) ?_
      case sub => repeat (first | exact List.forall_mem_nil _ | (refine List.forall_mem_cons.mpr ⟨by k_mem, ?_⟩))
      case subr => repeat (first | exact List.forall_mem_nil _ | (refine List.forall_mem_cons.mpr ⟨by k_mem, ?_⟩))
      case off => repeat (first | exact List.forall_mem_nil _ | (refine List.forall_mem_cons.mpr ⟨?_, ?_⟩) | exact neN (by dsimp only; omega) | exact Ne.symm (by assumption))
      rintro v nd hH tk2 F2 N2 - ⟨rfl, vs2, ep2, es2, rfl, el2, dg2, ev2, hi2⟩
      simp only [List.cons_append, List.nil_append] at N2
      simp only [List.take_zero, List.nil_append, List.drop_replicate, Nat.zero_add, Nat.sub_self, List.replicate_zero, List.append_nil] at hi2
      clear N7 F7
      (try dsimp only)
      (try k_fold)
      k_steps
      (try dsimp only)
      refine fin_use hQ (by assumption) (cb_drop N2 ?_) ⟨D, vs2, ep2, es2, _, rfl, rfl, Tab.full (c' := c) d1 d2 (neN (by omega)), hi2, by omega, dg2, ev2⟩
      repeat (first | exact List.forall_mem_nil _ | (refine List.forall_mem_cons.mpr ⟨by k_mem, ?_⟩))
    · rename_i ws D h9 i9 e9 l9 hA oA dA f c oc cvs qt ctv doc hB tkB d1 d2 l1 l2 hC oI F7 N7 dI ane
      (try dsimp only)
      refine fin_use hQ F7 (cb_drop N7 ?_) ⟨D, ws, 0, _, _, rfl, rfl, Tab.full (c' := c) d1 d2 (neN (by omega)), i9, by rw [List.length_replicate]; omega, digs_zeros n m, by rw [val_zeros, ane]⟩
      repeat (first | exact List.forall_mem_nil _ | (refine List.forall_mem_cons.mpr ⟨by k_mem, ?_⟩))
  | @full c oc cvs qt h1 h2 h3 =>
    refine enter_cells X T st hsz N (by k_is) (by k_is) (by omega) (BindsTo.of_eq rfl) rfl (by decide +kernel) ?_ rfl rfl rfl
    intro L h₁ tk cells F' N' Y hlt
    k_lt hlt
    k_cells Y
    simp only [List.cons_append, List.nil_append] at N'
    (try k_fold)
    k_steps
    · rename_i ws D h9 i9 e9 l9 hA oA dA f ctv doc hB tkB l1 hC oI F7 N7 dI ane
      have hap' := hap ane
      have hne9 : f ≠ D ∧ c ≠ D ∧ (L+1+1+1) ≠ D ∧ (L+1+1) ≠ D ∧ (L+1) ≠ D := ⟨neN (by omega), neN (by omega), neN (by omega), neN (by omega), neN (by omega)⟩
      obtain ⟨k, rfl⟩ : ∃ k, m = k + 1 := ⟨m - 1, by omega⟩
      refine Stop.mk ?_
      refine' Spec.use (rest := [(30, tabObj _)]) (inner1 (cI := L + 1 + 1 + 1) (cA := L + 1 + 1) (cN := L + 1) (D := D) (c' := c) (by rfl) hn hn' h1 h2 dI dA (by assumption) hne9 k a 0 _ _ _ _ _ _ _ i9 (by omega) (by simp) (by simp; omega) ha ham) rfl B F7 rfl rfl X T C1 C2 N7 ?sub ?subr ?off (fun _ _ _ => trivial) (by dsimp only; omega) (by dsimp only; omega) ?_
      case sub => repeat (first | exact List.forall_mem_nil _ | (refine List.forall_mem_cons.mpr ⟨by k_mem, ?_⟩))
      case subr => repeat (first | exact List.forall_mem_nil _ | (refine List.forall_mem_cons.mpr ⟨by k_mem, ?_⟩))
      case off => repeat (first | exact List.forall_mem_nil _ | (refine List.forall_mem_cons.mpr ⟨?_, ?_⟩) | exact neN (by dsimp only; omega) | exact Ne.symm (by assumption))
      rintro v nd hH tk2 F2 N2 - ⟨rfl, vs2, ep2, es2, rfl, el2, dg2, ev2, hi2⟩
      simp only [List.cons_append, List.nil_append] at N2
      simp only [List.take_zero, List.nil_append, List.drop_replicate, Nat.zero_add, Nat.sub_self, List.replicate_zero, List.append_nil] at hi2
      clear N7 F7
      (try dsimp only)
      (try k_fold)
      k_steps
      (try dsimp only)
      refine fin_use hQ (by assumption) (cb_drop N2 ?_) ⟨D, vs2, ep2, es2, _, rfl, rfl, Tab.full (c' := c) h1 h2 h3, hi2, by omega, dg2, ev2⟩
      repeat (first | exact List.forall_mem_nil _ | (refine List.forall_mem_cons.mpr ⟨by k_mem, ?_⟩))
    · rename_i ws D h9 i9 e9 l9 hA oA dA f ctv doc hB tkB l1 hC oI F7 N7 dI ane
      (try dsimp only)
      refine fin_use hQ F7 (cb_drop N7 ?_) ⟨D, ws, 0, _, _, rfl, rfl, Tab.full (c' := c) h1 h2 h3, i9, by rw [List.length_replicate]; omega, digs_zeros n m, by rw [val_zeros, ane]⟩
      repeat (first | exact List.forall_mem_nil _ | (refine List.forall_mem_cons.mpr ⟨by k_mem, ?_⟩))
end
end Mine

namespace Mine
section
variable {w : World} {p : Program} {loose : List Str} {mean : ExcName → Option Value} {mg mb : Str → Option Value}
local macro_rules | `(tactic| walk_at "call builtin:len") => `(tactic| ((refine' len_as ?k1 ?k2 ?k3 ?k4 ?_); (case k1 => k_asm); (case k2 => k_mem); (case k3 => assumption); (case k4 => omega)))
local macro_rules | `(tactic| walk_at "call ref") => `(tactic| refine Stop.go ?_)

def IsNumT (z : Int) (D : Addr) (o : Obj) (P : Addr) (pos : Pos) (qual : Str) (v : Value) (nd : List (Addr × Obj)) : Prop :=
  ∃ tb t, v = .int z t ∧ nd = (D, o) :: tb ∧ Tab P pos qual tb

theorem d2i {D : Addr} {vs : List Value} {ep : Nat} {ds : List Int} {n m : Nat} {tn : Tok} (hn' : n ≤ 4) (hvs : IntsAre vs ds) (hdl : ds.length ≤ 100) (hds : Digs n ds) (hvm : vs.length = m)
   (hD : D ≠ 37) {tb : List (Addr × Obj)} (ht : Tab 37 ⟨47, 4, 0, 0⟩ (Str.ofString "_digits2int.<locals>.inner") tb) (hoff : ∀ q ∈ tb, q.1 ≠ D) :
    Spec w p loose mean mg mb 120 4000 42 [.ref D, .int (n : Int) tn] (fun _ => True) ((D, listOf vs.toArray ep) :: tb) (IsNumT (val n ds) D (listOf vs.toArray ep) 37 ⟨47, 4, 0, 0⟩ (Str.ofString "_digits2int.<locals>.inner")) := by
  unfold Spec
  w_top off
  k_fill
  intro dp un gd env outer base g s Q E B X T C1 C2 hG hdp hun st hsz N hQ
  have hlm : ds.length = m := hvs.length.symm.trans hvm
  have hm2 : m ≤ 1000000 := by omega
  have hD9 : @Ne Nat D 37 := hD
  cases ht with
  | empty =>
    refine enter_cells X T st hsz N (by k_is) (by k_is) (by omega) (BindsTo.of_eq rfl) rfl (by decide +kernel) ?_ rfl rfl rfl
    intro L h₁ tk cells F' N' Y hlt
    k_lt hlt
    k_cells Y
    simp only [List.cons_append, List.nil_append] at N'
    (try k_fold)
    k_steps
    · rename_i f c oc cvs qt ctv doc hB tkB d1 d2 l1 l2 hC oI F7 N7 dI ane
      have hl0 : 0 < ds.length := by assumption
      obtain ⟨k, hk⟩ : ∃ k, ds.length = k + 1 := ⟨ds.length - 1, by omega⟩
      have hne9 : f ≠ D ∧ c ≠ D ∧ (L+1+1+1) ≠ D ∧ (L+1) ≠ D ∧ (L+1+1) ≠ D := ⟨neN (by omega), neN (by omega), neN (by omega), neN (by omega), neN (by omega)⟩
      have hc37 : @Ne Nat c 37 := (by omega)
      refine Stop.mk ?_
      refine' Spec.use (rest := [(37, tabObj _)]) (inner2 (cI := L + 1 + 1 + 1) (cA := L + 1) (cN := L + 1 + 1) (D := D) (c' := c) (by rfl) hn' d1 d2 dI (by assumption) (by assumption) hvs hdl hds k 0 _ _ _ (by omega) (by omega)) rfl B F7 rfl rfl X T C1 C2 N7 ?sub ?subr ?off (fun _ _ _ => trivial) (by dsimp only; omega) (by dsimp only; omega) ?_
      case sub => repeat (first | exact List.forall_mem_nil _ | (refine List.forall_mem_cons.mpr ⟨by k_mem, ?_⟩))
      case subr => repeat (first | exact List.forall_mem_nil _ | (refine List.forall_mem_cons.mpr ⟨by k_mem, ?_⟩))
      case off => repeat (first | exact List.forall_mem_nil _ | (refine List.forall_mem_cons.mpr ⟨?_, ?_⟩) | exact neN (by dsimp only; omega))
      rintro v nd hH tk2 F2 N2 - ⟨rfl, t9, rfl⟩
      simp only [List.cons_append, List.nil_append] at N2
      have hcut : cut ds 0 (k + 1) = ds := by rw [← hk]; exact cut_all ds
      rw [hcut]
      (try dsimp only)
      refine fin_use hQ F2 (cb_drop N2 ?_) ⟨_, t9, rfl, rfl, Tab.full (c' := c) d1 d2 hc37⟩
      repeat (first | exact List.forall_mem_nil _ | (refine List.forall_mem_cons.mpr ⟨by k_mem, ?_⟩))
    · rename_i f c oc cvs qt ctv doc hB tkB d1 d2 l1 l2 hC oI F7 N7 dI ane
      (try dsimp only)
      have hnil : ds = [] := by
        cases ds with
        | nil => rfl
        | cons => simp at *
      have hc37 : @Ne Nat c 37 := (by omega)
      refine fin_use hQ F7 (cb_drop N7 ?_) ⟨_, _, (by rw [hnil]; rfl), rfl, Tab.full (c' := c) d1 d2 hc37⟩
      repeat (first | exact List.forall_mem_nil _ | (refine List.forall_mem_cons.mpr ⟨by k_mem, ?_⟩))
  | @full c oc cvs qt h1 h2 h3 =>
    have hcD : @Ne Nat c D := hoff (c, oc) (.tail _ (.head _))
    refine enter_cells X T st hsz N (by k_is) (by k_is) (by omega) (BindsTo.of_eq rfl) rfl (by decide +kernel) ?_ rfl rfl rfl
    intro L h₁ tk cells F' N' Y hlt
    k_lt hlt
    k_cells Y
    simp only [List.cons_append, List.nil_append] at N'
    (try k_fold)
    k_steps
    · rename_i f ctv doc hB tkB l1 hC oI F7 N7 dI ane
      have hl0 : 0 < ds.length := by assumption
      obtain ⟨k, hk⟩ : ∃ k, ds.length = k + 1 := ⟨ds.length - 1, by omega⟩
      have hne9 : f ≠ D ∧ c ≠ D ∧ (L+1+1+1) ≠ D ∧ (L+1) ≠ D ∧ (L+1+1) ≠ D := ⟨neN (by omega), neN (by omega), neN (by omega), neN (by omega), neN (by omega)⟩
      have hc37 : @Ne Nat c 37 := h3
      refine Stop.mk ?_
      refine' Spec.use (rest := [(37, tabObj _)]) (inner2 (cI := L + 1 + 1 + 1) (cA := L + 1) (cN := L + 1 + 1) (D := D) (c' := c) (by rfl) hn' h1 h2 dI (by assumption) (by assumption) hvs hdl hds k 0 _ _ _ (by omega) (by omega)) rfl B F7 rfl rfl X T C1 C2 N7 ?sub ?subr ?off (fun _ _ _ => trivial) (by dsimp only; omega) (by dsimp only; omega) ?_
      case sub => repeat (first | exact List.forall_mem_nil _ | (refine List.forall_mem_cons.mpr ⟨by k_mem, ?_⟩))
      case subr => repeat (first | exact List.forall_mem_nil _ | (refine List.forall_mem_cons.mpr ⟨by k_mem, ?_⟩))
      case off => repeat (first | exact List.forall_mem_nil _ | (refine List.forall_mem_cons.mpr ⟨?_, ?_⟩) | exact neN (by dsimp only; omega))
      rintro v nd hH tk2 F2 N2 - ⟨rfl, t9, rfl⟩
      simp only [List.cons_append, List.nil_append] at N2
      have hcut : cut ds 0 (k + 1) = ds := by rw [← hk]; exact cut_all ds
      rw [hcut]
      (try dsimp only)
      refine fin_use hQ F2 (cb_drop N2 ?_) ⟨_, t9, rfl, rfl, Tab.full (c' := c) h1 h2 hc37⟩
      repeat (first | exact List.forall_mem_nil _ | (refine List.forall_mem_cons.mpr ⟨by k_mem, ?_⟩))
    · rename_i f ctv doc hB tkB l1 hC oI F7 N7 dI ane
      (try dsimp only)
      have hnil : ds = [] := by
        cases ds with
        | nil => rfl
        | cons => simp at *
      have hc37 : @Ne Nat c 37 := h3
      refine fin_use hQ F7 (cb_drop N7 ?_) ⟨_, _, (by rw [hnil]; rfl), rfl, Tab.full (c' := c) h1 h2 hc37⟩
      repeat (first | exact List.forall_mem_nil _ | (refine List.forall_mem_cons.mpr ⟨by k_mem, ?_⟩))
end
end Mine

namespace Mine

theorem OffI.of {I : Addr} {it : Obj} : ∀ {l : List (Addr × Obj)}, (∀ p ∈ l, p.1 ≠ I) → OffI I it l
  | [], _ => trivial
  | p :: _, h => ⟨.inl (h p (.head _)), OffI.of fun q hq => h q (.tail _ hq)⟩

section
variable {prog : Program} {w : World} {A : Around} {E : Value → Shared → Prop} {s : Shared} {env : Env} {h₀ : Heap} {x : Str} {body : List Stmt} {Q : Flow → Shared → Prop}

/-- the end of a turn, the iterator's own entry named -/
theorem turn_end {s₁ : Shared} {L : Addr} {I : Addr} {it : Obj} {J : (Str → Option Value) → List (Addr × Obj) → Prop} {m' : Str → Option Value} {h' : Heap} {tk : Nat} {all : List (Addr × Obj)} (news' : List (Addr × Obj))
    (F : Fr h₀ L h' m') (N : News h₀ L h' all) (sub : ∀ p ∈ (I, it) :: news', p ∈ all) (off : ∀ p ∈ news', p.1 ≠ I) (j : J m' news') :
    UnrEnd h₀ L s₁ I it J { s₁ with heap := h', toks := tk } := ⟨h', tk, m', news', rfl, F, fun p hp => N p (sub p hp), off, j⟩

theorem unrPost_mono {L : Addr} {s₁ : Shared} {I : Addr} {it : Obj} {J J' : (Str → Option Value) → List (Addr × Obj) → Prop} (h : ∀ m n, (∀ p ∈ n, p.1 ≠ I) → J m n → J' m n) (f : Flow) (s₂ : Shared) :
    UnrPost h₀ L s₁ I it J Q f s₂ → UnrPost h₀ L s₁ I it J' Q f s₂ := by
  have e : UnrEnd h₀ L s₁ I it J s₂ → UnrEnd h₀ L s₁ I it J' s₂ := fun ⟨h', tk, m', n', a, F, N, o, j⟩ => ⟨h', tk, m', n', a, F, N, o, h _ _ o j⟩
  cases f with
  | ret v => exact id
  | brk => exact id
  | next => exact e
  | cont => exact e

theorem rev_ind {I : Addr} {lp : Addr × Obj} (J : List Value → (Str → Option Value) → List (Addr × Obj) → Prop)
    (step : ∀ v r m news (it : Obj) h tk, J (v :: r) m news → (∀ p ∈ news, p.1 ≠ I) → it.cls = .type "list_reverseiterator" → Fr h₀ env.locals h (fun y => if y = x then some v else m y) → News h₀ env.locals h ((I, it) :: news) →
      wpAny (model prog w) A (execs body env) (UnrPost h₀ env.locals { s with heap := h, toks := tk } I it (fun m' n' => lp ∈ n' ∧ J r m' n') Q) E { s with heap := h, toks := tk })
    (done : ∀ m news h tk, J [] m news → Fr h₀ env.locals h m → News h₀ env.locals h news → Q .next { s with heap := h, toks := tk }) :
    ∀ rest m news, J rest m news → (∀ p ∈ news, p.1 ≠ I) → RevRest prog w A E h₀ env x body Q s I lp rest m news
  | [], m, news, hj, _ => fun h tk F N => done m news h tk hj F N
  | v :: r, m, news, hj, ho => fun it h tk hc F N =>
    wpAny_mono (step v r m news it h tk hj ho hc F N) (fun f s₂ p => unrPost_mono (fun m' n' o' ⟨hl, hj'⟩ => ⟨hl, rev_ind J step done r m' n' hj' o'⟩) f s₂ p) fun _ _ e => e

theorem range_ind {I : Addr} {a : Int} {n : Nat} (J : Nat → (Str → Option Value) → List (Addr × Obj) → Prop)
    (step : ∀ (i : Nat) t m news h tk, i < n → J i m news → (∀ p ∈ news, p.1 ≠ I) → Fr h₀ env.locals h (fun y => if y = x then some (.int (a + (i : Int)) t) else m y) →
      News h₀ env.locals h ((I, itR (a + ((i + 1 : Nat) : Int)) ((n : Int) - ((i + 1 : Nat) : Int))) :: news) →
      wpAny (model prog w) A (execs body env) (UnrPost h₀ env.locals { s with heap := h, toks := tk } I (itR (a + ((i + 1 : Nat) : Int)) ((n : Int) - ((i + 1 : Nat) : Int))) (J (i + 1)) Q) E { s with heap := h, toks := tk })
    (done : ∀ m news h tk, J n m news → Fr h₀ env.locals h m → News h₀ env.locals h news → Q .next { s with heap := h, toks := tk }) :
    ∀ k i m news, k + i = n → J i m news → (∀ p ∈ news, p.1 ≠ I) → RangeRest prog w A E h₀ env x body Q s I a n k i m news
  | 0, i, m, news, e, hj, _ => fun h tk F N => done m news h tk ((by omega : i = n) ▸ hj) F N
  | k + 1, i, m, news, e, hj, ho => fun t h tk F N =>
    wpAny_mono (step i t m news h tk (by omega) hj ho F N) (fun f s₂ p => unrPost_mono (fun m' n' o' hj' => range_ind J step done k (i + 1) m' n' (by omega) hj' o') f s₂ p) fun _ _ e => e

theorem range_loop {r : Addr} {a₀ b₀ : Int} {t₀ u₀ v₀ : Tok} {n : Nat} {m₀ : Str → Option Value} {news : List (Addr × Obj)} (J : Addr → Nat → (Str → Option Value) → List (Addr × Obj) → Prop)
    (hh : A.handled = none) (hr : IsRange s.heap r a₀ b₀ 1 t₀ u₀ v₀) (hsmall : Builtin.Range.small a₀ b₀ 1 = true) (hn : Builtin.Range.rangeSize a₀ b₀ 1 = (n : Int)) (F : Fr h₀ env.locals s.heap m₀) (N : News h₀ env.locals s.heap news)
    (hj : ∀ I, (∀ p ∈ news, p.1 < I) → J I 0 m₀ news)
    (step : ∀ (I : Addr) (i : Nat) t m news h tk, i < n → J I i m news → (∀ p ∈ news, p.1 ≠ I) → Fr h₀ env.locals h (fun y => if y = x then some (.int (a₀ + (i : Int)) t) else m y) →
      News h₀ env.locals h ((I, itR (a₀ + ((i + 1 : Nat) : Int)) ((n : Int) - ((i + 1 : Nat) : Int))) :: news) →
      wpAny (model prog w) A (execs body env) (UnrPost h₀ env.locals { s with heap := h, toks := tk } I (itR (a₀ + ((i + 1 : Nat) : Int)) ((n : Int) - ((i + 1 : Nat) : Int))) (J I (i + 1)) Q) E { s with heap := h, toks := tk })
    (done : ∀ I m news h tk, J I n m news → Fr h₀ env.locals h m → News h₀ env.locals h news → Q .next { s with heap := h, toks := tk }) :
    wpAny (model prog w) A (pyIter (.ref r)) (fun it s₂ => LoopAtV prog w A h₀ env x body Q E it s₂) E s :=
  iter_rangeUnr hh hr hsmall hn F N fun I lt => range_ind (J I) (step I) (done I) n 0 m₀ news (by omega) (hj I lt) fun p hp => Nat.ne_of_lt (lt p hp)

theorem krs_ind {I : Addr} {a c : Int} {n : Nat} (J : Nat → (Str → Option Value) → List (Addr × Obj) → Prop)
    (step : ∀ (i : Nat) t m news h tk, i < n → J i m news → (∀ p ∈ news, p.1 ≠ I) → Fr h₀ env.locals h (fun y => if y = x then some (.int (a + (i : Int) * c) t) else m y) →
      News h₀ env.locals h ((I, krsIt (a + ((i + 1 : Nat) : Int) * c) ((n : Int) - ((i + 1 : Nat) : Int)) c) :: news) →
      wpAny (model prog w) A (execs body env) (UnrPost h₀ env.locals { s with heap := h, toks := tk } I (krsIt (a + ((i + 1 : Nat) : Int) * c) ((n : Int) - ((i + 1 : Nat) : Int)) c) (J (i + 1)) Q) E { s with heap := h, toks := tk })
    (done : ∀ m news h tk, J n m news → Fr h₀ env.locals h m → News h₀ env.locals h news → Q .next { s with heap := h, toks := tk }) :
    ∀ k i m news, k + i = n → J i m news → (∀ p ∈ news, p.1 ≠ I) → KrsRest prog w A E h₀ env x body Q s I a c n k i m news
  | 0, i, m, news, e, hj, _ => fun h tk F N => done m news h tk ((by omega : i = n) ▸ hj) F N
  | k + 1, i, m, news, e, hj, ho => fun t h tk F N =>
    wpAny_mono (step i t m news h tk (by omega) hj ho F N) (fun f s₂ p => unrPost_mono (fun m' n' o' hj' => krs_ind J step done k (i + 1) m' n' (by omega) hj' o') f s₂ p) fun _ _ e => e

theorem krs_loop {r : Addr} {a₀ b₀ c : Int} {t₀ u₀ v₀ : Tok} {n : Nat} {m₀ : Str → Option Value} {news : List (Addr × Obj)} (J : Addr → Nat → (Str → Option Value) → List (Addr × Obj) → Prop)
    (hh : A.handled = none) (hr : IsRange s.heap r a₀ b₀ c t₀ u₀ v₀) (hsmall : Builtin.Range.small a₀ b₀ c = true) (hn : Builtin.Range.rangeSize a₀ b₀ c = (n : Int)) (F : Fr h₀ env.locals s.heap m₀) (N : News h₀ env.locals s.heap news)
    (hj : ∀ I, (∀ p ∈ news, p.1 < I) → J I 0 m₀ news)
    (step : ∀ (I : Addr) (i : Nat) t m news h tk, i < n → J I i m news → (∀ p ∈ news, p.1 ≠ I) → Fr h₀ env.locals h (fun y => if y = x then some (.int (a₀ + (i : Int) * c) t) else m y) →
      News h₀ env.locals h ((I, krsIt (a₀ + ((i + 1 : Nat) : Int) * c) ((n : Int) - ((i + 1 : Nat) : Int)) c) :: news) →
      wpAny (model prog w) A (execs body env) (UnrPost h₀ env.locals { s with heap := h, toks := tk } I (krsIt (a₀ + ((i + 1 : Nat) : Int) * c) ((n : Int) - ((i + 1 : Nat) : Int)) c) (J I (i + 1)) Q) E { s with heap := h, toks := tk })
    (done : ∀ I m news h tk, J I n m news → Fr h₀ env.locals h m → News h₀ env.locals h news → Q .next { s with heap := h, toks := tk }) :
    wpAny (model prog w) A (pyIter (.ref r)) (fun it s₂ => LoopAtV prog w A h₀ env x body Q E it s₂) E s :=
  krs_iter hh hr hsmall hn F N fun I lt => krs_ind (J I) (step I) (done I) n 0 m₀ news (by omega) (hj I lt) fun p hp => Nat.ne_of_lt (lt p hp)
end
end Mine

namespace Mine
abbrev TabA : List (Addr × Obj) → Prop := Tab 30 ⟨32, 4, 0, 0⟩ (Str.ofString "_int2digits.<locals>.inner")
abbrev TabB : List (Addr × Obj) → Prop := Tab 37 ⟨47, 4, 0, 0⟩ (Str.ofString "_digits2int.<locals>.inner")
def Apart (a b : List (Addr × Obj)) : Prop := ∀ p ∈ a, ∀ q ∈ b, p.1 ≠ q.1

section
variable {prog : Program} {w : World} {A : Around} {E : Value → Shared → Prop} {s : Shared} {Q : Value → Shared → Prop}
theorem bitlen_as {a : Int} {t : Tok} {c : Nat} (hc : Builtin.Int.intBits a = c) (h : Q (.int (c : Int) s.toks) { s with toks := s.toks + 1 }) : wpAny (model prog w) A (call (.builtin "int.bit_length") [.int a t]) Q E s :=
  call_int_bit_length (by rw [hc]; exact h)
end
theorem pow_le {n m : Nat} (h : n ≤ m) : (2 : Int) ^ n ≤ 2 ^ m := by exact_mod_cast Nat.pow_le_pow_right (show 2 > 0 by decide) h
theorem step_facts {r b d c : Int} {n : Nat} (hn1 : 1 ≤ n) (hn4 : n ≤ 4) (hr0 : 0 ≤ r) (hrb : r < b) (hbn : b < 2 ^ n) (hd0 : 0 ≤ d) (hd1 : d < 2 ^ n) (hc : r * 2 ^ (n : Int).toNat = c) :
    0 ≤ c + d ∧ c + d < 2 ^ 20 ∧ (Builtin.Int.intBits r : Int) + n ≤ 2 ^ 27 ∧ 0 ≤ (c + d) / b ∧ (c + d) / b < 2 ^ n := by
  have hb : Builtin.Int.intBits r ≤ 30 := by
    refine PySem.intBits_le_iff.mpr ?_
    have h4 : n = 1 ∨ n = 2 ∨ n = 3 ∨ n = 4 := by omega
    rcases h4 with rfl | rfl | rfl | rfl <;> omega
  rw [Int.toNat_natCast] at hc
  have hlt : c + d < 2 ^ n * b := by
    rw [← hc]
    have : r * 2 ^ n + 2 ^ n ≤ b * 2 ^ n := by
      have h1 : (r + 1) * 2 ^ n ≤ b * 2 ^ n := Int.mul_le_mul_of_nonneg_right (by omega) (Int.le_of_lt (Int.pow_pos (by decide)))
      rw [Int.add_mul, Int.one_mul] at h1
      exact h1
    rw [Int.mul_comm (2 ^ n) b]
    omega
  have h0 : 0 ≤ c := by rw [← hc]; exact Int.mul_nonneg hr0 (Int.le_of_lt (Int.pow_pos (by decide)))
  have hsm : 2 ^ n * b ≤ 256 := by
    have h4 : n = 1 ∨ n = 2 ∨ n = 3 ∨ n = 4 := by omega
    rcases h4 with rfl | rfl | rfl | rfl <;> omega
  refine ⟨by omega, by omega, by omega, Int.ediv_nonneg (by omega) (by omega), Int.ediv_lt_of_lt_mul (by omega) hlt⟩
/-- the rest behind one more digit -/
def step (b : Int) (n : Nat) (r d : Int) : Int := (r * 2 ^ n + d) % b
theorem fold_rest (b : Int) (n : Nat) (es : List Int) : es.reverse.foldl (step b n) 0 = val n es % b := by
  rw [List.foldl_reverse]
  induction es with
  | nil => simp [val]
  | cons d r ih =>
    rw [List.foldr_cons, ih]
    unfold step
    rw [val, Int.add_comm d, Int.mul_comm (2 ^ n), Int.add_emod, Int.mul_emod, Int.emod_emod, ← Int.mul_emod, ← Int.add_emod]

theorem Tab.mem {P : Addr} {pos : Pos} {qual : Str} {tb : List (Addr × Obj)} (h : Tab P pos qual tb) : ∃ o, (P, o) ∈ tb := by
  cases h with
  | empty => exact ⟨_, .head _⟩
  | full => exact ⟨_, .head _⟩
section
variable {w : World} {p : Program} {loose : List Str} {mean : ExcName → Option Value} {mg mb : Str → Option Value}
local macro_rules | `(tactic| walk_at "call ref") => `(tactic| refine Stop.go ?_)
local macro_rules | `(tactic| walk_at "pyIter ref") => `(tactic| refine Stop.go ?_)
local macro_rules | `(tactic| walk_at "exec For Name Call cons nil") => `(tactic| (k_here; (rename Fr _ _ _ _ => lF'); (with_unfolding_all refine' For_invVF lF' ?k1 ?k2 ?_; (case k1 => exact rfl); (case k2 => exact rfl); k_whole)))

/-- what _divmod_pos hands back -/
def IsDM (r : Int) (v : Value) (nd : List (Addr × Obj)) : Prop :=
  ∃ t q tq tr ta tb, v = .ref t ∧ nd = (t, tup2 q r tq tr) :: (ta ++ tb) ∧ TabA ta ∧ TabB tb ∧ Apart ta tb

local macro_rules | `(tactic| walk_at "call builtin:int.bit_length") => `(tactic| (refine' bitlen_as ?k1 ?_; (case k1 => assumption)))
local macro_rules | `(tactic| walk_at "eval Name") => `(tactic| (refine' ld ?k1 ?k2 ?_; (case k1 => k_asm); (case k2 => assumption); k_whole))
local macro_rules | `(tactic| walk_at "binaryOp LShift int int") => `(tactic| ((with_reducible refine' lshift_as ?k1 ?k3 ?k2 ?_); (case k1 => omega); (case k2 => assumption); (case k3 => omega)))

def DivJ (a b : Int) (n : Nat) (u2 : Tok) (l D : Addr) (lo : Obj) (tl : List (Addr × Obj)) (rest : List Value) (m : Str → Option Value) (news : List (Addr × Obj)) : Prop :=
  ∃ (r : Int) (tr : Tok) (ws : List Value) (eq : Nat) (qs rs : List Int), IntsAre rest rs ∧ Digs n rs ∧ 0 ≤ r ∧ r < b ∧ rs.foldl (step b n) r = a % b ∧ IntsAre ws qs ∧ Digs n qs ∧ qs.length + rs.length ≤ 100 ∧
    m (Str.ofString "r") = some (.int r tr) ∧ m (Str.ofString "b") = some (.int b u2) ∧ (∃ tn, m (Str.ofString "n") = some (.int (n : Int) tn)) ∧ m (Str.ofString "q_digits") = some (.ref l) ∧
    news = (l, listOf ws.toArray eq) :: (D, lo) :: tl

theorem dmp {a b : Int} {n : Nat} {u1 u2 : Tok} (ha : 0 ≤ a) (ha' : a < 2 ^ 20) (hb : 1 ≤ b) (hn : Builtin.Int.intBits b = n) (hn1 : 1 ≤ n) (hn4 : n ≤ 4) (hbn : b < 2 ^ n)
    {ta tb : List (Addr × Obj)} (hta : TabA ta) (htb : TabB tb) (hap : Apart ta tb) :
    Spec w p loose mean mg mb 150 5000 49 [.int a u1, .int b u2] (fun _ => True) (ta ++ tb) (IsDM (a % b)) := by
  unfold Spec
  w_top off
  k_fill
  intro dp un gd env outer base g s Q E B X T C1 C2 hG hdp hun st hsz N hQ
  obtain ⟨m, hm⟩ : ∃ m : Nat, ((Builtin.Int.intBits a : Int) + n - 1).fdiv n = (m : Int) := by
    refine ⟨(((Builtin.Int.intBits a : Int) + n - 1).fdiv n).toNat, ?_⟩
    rw [Int.fdiv_eq_ediv_of_nonneg _ (by omega)]
    have : 0 ≤ ((Builtin.Int.intBits a : Int) + n - 1) / n := Int.ediv_nonneg (by omega) (by omega)
    omega
  have hba : (Builtin.Int.intBits a : Int) ≤ 50 := by
    have := (PySem.intBits_le_iff (m := 50) (x := a)).mpr (by omega)
    omega
  have hb20 : b < 2 ^ 20 := Int.lt_of_lt_of_le hbn (Int.le_trans (pow_le hn4) (by decide))
  refine enter_plain X T st hsz N (by k_is) (by k_is) (by omega) (BindsTo.of_eq rfl) (locs rfl) ?_ rfl rfl rfl (by decide)
  intro L h₁ F' N' hlt
  (try k_fold)
  k_steps
  rename_i F' N'
  refine Stop.mk ?_
  refine' Spec.use (rest := tb) (i2d ha hn1 hn4 hba hm hta) rfl B F' rfl rfl X T C1 C2 N' (fun q hq => List.mem_append_left _ hq) (fun q hq => List.mem_append_right _ hq) (fun q hq n hn => (hap n hn q hq).symm) (fun _ _ _ => trivial) (by dsimp only; omega) (by dsimp only; omega) ?_
  rintro v nd hH tk2 F2 N2 off2 ⟨D, vs, ep, es, ta2, rfl, rfl, hta2, hvs, hes, hdg, hval⟩
  clear F' N'
  simp only [List.cons_append] at N2
  (try dsimp only)
  (try k_fold)
  k_steps
  rename_i hA tkA hC l hE l1 hF I hG F7 N7 l2
  have hrev := IntsAre.reverse hvs
  have hltL : ∀ q ∈ ta2 ++ tb, q.1 < l := ktn_ltOf l1.2
  have hltI : ∀ q ∈ ta2 ++ tb, q.1 < I := ktn_ltOf l2.2.2
  refine Stop.mk ?_
  refine' iter_revUnr rfl F7 N7 (OffI.of ?_) (List.mem_cons_of_mem _ (List.mem_cons_self ..)) rfl rfl ?_
  · exact List.forall_mem_cons.mpr ⟨neN (by dsimp only; omega), List.forall_mem_cons.mpr ⟨neN (by dsimp only; omega), fun q hq => Nat.ne_of_lt (hltI q hq)⟩⟩
  refine rev_ind (DivJ a b n u2 l D (listOf vs.toArray ep) (ta2 ++ tb)) ?step ?done _ _ _ ?ini ?off
  case off => exact List.forall_mem_cons.mpr ⟨neN (by dsimp only; omega), List.forall_mem_cons.mpr ⟨neN (by dsimp only; omega), fun q hq => Nat.ne_of_lt (hltI q hq)⟩⟩
  case ini => exact ⟨0, _, [], 0, [], es.reverse, hrev, (fun e he => hdg e (List.mem_reverse.mp he)), Int.le_refl _, by omega, by rw [fold_rest, hval], .nil, (fun _ h => nomatch h), by simp; omega, rfl, rfl, ⟨_, rfl⟩, rfl, rfl⟩
  case step =>
    rintro v r9 m9 news9 it h9 tk9 ⟨r, tr, ws, eq, qs, rs, hi, hd, hr0, hrb, hf, hws, hqs, hlen, er, eb, ⟨tn, en⟩, eq9, rfl⟩ ho hc F9 N9
    cases hi with
    | @cons d td vs9 ns9 hi =>
    clear F7 N7
    replace F9 : Fr g L h9 _ := F9
    replace N9 : News g L h9 _ := N9
    have hds := hd d (.head _)
    obtain ⟨c, hc9⟩ : ∃ c, r * 2 ^ (n : Int).toNat = c := ⟨_, rfl⟩
    obtain ⟨f1, f2, hbits, f4, f5⟩ := step_facts hn1 hn4 hr0 hrb hbn hds.1 hds.2 hc9
    have hIl : @Ne Nat I l := by omega
    have hlD : @Ne Nat D l := by omega
    have hoff9 : OwnOff (ta2 ++ tb) [l] := fun q hq x hx => by rw [List.mem_singleton.mp hx]; exact Nat.ne_of_lt (hltL q hq)
    try k_fold
    k_steps
    refine Stop.mk ?_
    refine' Spec.use (rest := (I, it) :: (l, listOf ws.toArray eq) :: (D, listOf vs.toArray ep) :: (ta2 ++ tb)) (div2n1n f1 f2 (by omega) hb20 (by omega) (by omega)) rfl B F9 rfl rfl X T C1 C2 N9 (fun q hq => nomatch hq) (fun q hq => hq) (fun q hq n hn => nomatch hn) (fun _ _ _ => trivial) (by dsimp only; omega) (by dsimp only; omega) ?_
    rintro v nd hH tk2 F2 N2 off2 ⟨t, t1, t2, rfl, rfl⟩
    have htI : @Ne Nat t I := off2 _ (.head _) _ (.head _)
    have htl : @Ne Nat t l := off2 _ (.head _) _ (.tail _ (.head _))
    have htD : @Ne Nat t D := off2 _ (.head _) _ (.tail _ (.tail _ (.head _)))
    clear F9 N9
    simp only [List.cons_append, List.nil_append] at N2
    (try dsimp only)
    (try k_fold)
    k_steps
    rename_i hx F10 N10
    rw [List.push_toArray] at N10
    have hlI : @Ne Nat l I := by omega
    have hDI : @Ne Nat D I := by omega
    refine turn_end ((l, listOf (ws ++ [Value.int ((c + d) / b) t1]).toArray (eq + 1)) :: (D, listOf vs.toArray ep) :: (ta2 ++ tb)) F10 N10 (fun q hq => .tail _ hq) ?_ ?_
    · exact List.forall_mem_cons.mpr ⟨hlI, List.forall_mem_cons.mpr ⟨hDI, fun q hq => Nat.ne_of_lt (hltI q hq)⟩⟩
    · refine ⟨.tail _ (.head _), (c + d) % b, t2, ws ++ [Value.int ((c + d) / b) t1], eq + 1, qs ++ [(c + d) / b], ns9, hi, (fun e he => hd e (.tail _ he)), Int.emod_nonneg _ (by omega), Int.emod_lt_of_pos _ (by omega), ?_, IntsAre.append hws (.cons _ _ .nil), hqs.append ?_, ?_, rfl, eb, ⟨tn, en⟩, eq9, rfl⟩
      · rw [← hf, List.foldl_cons]
        congr 1
        unfold step
        rw [← hc9, Int.toNat_natCast]
      · intro e he
        rw [List.mem_singleton.mp he]
        exact ⟨f4, f5⟩
      · simp only [List.length_append, List.length_cons, List.length_nil] at hlen ⊢
        omega
  case done =>
    rintro m9 news9 h9 tk9 ⟨r, tr, ws, eq, qs, rs, hi, hd, hr0, hrb, hf, hws, hqs, hlen, er, eb, ⟨tn, en⟩, eq9, rfl⟩ F9 N9
    cases hi
    replace F9 : Fr g L h9 _ := F9
    replace N9 : News g L h9 _ := N9
    simp only [List.foldl_nil] at hf
    subst hf
    clear F7 N7
    have hlD : @Ne Nat D l := by omega
    have hoff9 : OwnOff (ta2 ++ tb) [l] := fun q hq x hx => by rw [List.mem_singleton.mp hx]; exact Nat.ne_of_lt (hltL q hq)
    dsimp only
    try k_fold
    k_steps
    refine' kl_reverse (its := ws.toArray) (l := ws.reverse) F9 N9 (by simp) ?U ?z ?_
    case U => exact Upd.head (List.forall_mem_cons.mpr ⟨hlD, fun q hq => Nat.ne_of_lt (hltL q hq)⟩)
    case z =>
      have := IntsAre.length hws
      simp only [List.length_nil, Nat.add_zero] at hlen
      show ws.length ≤ sizeLine
      unfold sizeLine
      omega
    intro h10 F10 N10
    clear F9 N9
    try dsimp only
    try k_fold
    k_steps
    obtain ⟨o37, h37⟩ := Tab.mem htb
    have hl37 : @Ne Nat l 37 := Nat.ne_of_gt (hltL _ (List.mem_append_right _ h37))
    have hqs9 : qs.length ≤ 100 := by simpa using hlen
    refine Stop.mk ?_
    refine' Spec.use (rest := ta2) (d2i hn4 (IntsAre.reverse hws) (by rw [List.length_reverse]; exact hqs9) (fun e he => hqs e (List.mem_reverse.mp he)) rfl hl37 htb (fun q hq => Nat.ne_of_lt (hltL _ (List.mem_append_right _ hq)))) rfl B F10 rfl rfl X T C1 C2 N10 ?sub ?subr ?off9 (fun _ _ _ => trivial) (by dsimp only; omega) (by dsimp only; omega) ?_
    case sub => exact List.forall_mem_cons.mpr ⟨.head _, fun q hq => .tail _ (.tail _ (List.mem_append_right _ hq))⟩
    case subr => exact fun q hq => .tail _ (.tail _ (List.mem_append_left _ hq))
    case off9 =>
      intro q hq n8 hn8
      rcases List.mem_cons.mp hn8 with rfl | hn8
      · exact Nat.ne_of_lt (hltL _ (List.mem_append_left _ hq))
      · exact off2 _ (.tail _ hq) _ hn8
    rintro v nd h11 tk11 F11 N11 off11 ⟨tb2, tz, rfl, rfl, htb2⟩
    simp only [List.cons_append] at N11
    clear F10 N10
    try dsimp only
    try k_fold
    k_steps
    try dsimp only
    rename_i h12 l12 h13 F13 N13 lt13
    refine fin_use (need' := (l12, tup2 (val n qs.reverse) (a % b) tz tr) :: (ta2 ++ tb2)) hQ F13 (cb_drop N13 ?_) ⟨l12, _, tz, tr, ta2, tb2, rfl, rfl, hta2, htb2, fun q hq n8 hn8 => (off11 _ (.tail _ hn8) _ hq).symm⟩
    refine List.forall_mem_cons.mpr ⟨.head _, fun q hq => .tail _ (.tail _ ?_)⟩
    rcases List.mem_append.mp hq with hq | hq
    · exact List.mem_append_right _ hq
    · exact List.mem_append_left _ hq
end
end Mine

namespace Mine
section
variable {w : World} {p : Program} {loose : List Str} {mean : ExcName → Option Value} {mg mb : Str → Option Value}
local macro_rules | `(tactic| walk_at "call ref") => `(tactic| refine Stop.go ?_)

theorem bits_small {b : Int} (hb : 1 ≤ b) (hb9 : b ≤ 9) : ∃ n : Nat, Builtin.Int.intBits b = n ∧ 1 ≤ n ∧ n ≤ 4 ∧ b < 2 ^ n := by
  have h : b = 1 ∨ b = 2 ∨ b = 3 ∨ b = 4 ∨ b = 5 ∨ b = 6 ∨ b = 7 ∨ b = 8 ∨ b = 9 := by omega
  rcases h with rfl | rfl | rfl | rfl | rfl | rfl | rfl | rfl | rfl <;> exact ⟨_, rfl, by decide +kernel, by decide +kernel, by decide +kernel⟩

theorem idm_pos {a b : Int} {u1 u2 : Tok} (ha : 0 ≤ a) (ha' : a < 2 ^ 20) (hb : 1 ≤ b) (hb9 : b ≤ 9)
    {ta tb : List (Addr × Obj)} (hta : TabA ta) (htb : TabB tb) (hap : Apart ta tb) :
    Spec w p loose mean mg mb 160 5100 56 [.int a u1, .int b u2] (fun _ => True) (ta ++ tb) (IsDM (a % b)) := by
  unfold Spec
  w_top off
  k_fill
  intro dp un gd env outer base g s Q E B X T C1 C2 hG hdp hun st hsz N hQ
  have hb0 : (b == 0) = false := beq_eq_false_iff_ne.mpr (by omega)
  have hb1 : decide (b < 0) = false := decide_eq_false (by omega)
  have ha1 : decide (a < 0) = false := decide_eq_false (by omega)
  refine enter_plain X T st hsz N (by k_is) (by k_is) (by omega) (BindsTo.of_eq rfl) (locs rfl) ?_ rfl rfl rfl (by decide)
  intro L h₁ F' N' hlt
  (try k_fold)
  k_steps
  obtain ⟨n, hn, hn1, hn4, hbn⟩ := bits_small hb hb9
  refine Stop.mk ?_
  refine' Spec.use (rest := []) (dmp ha ha' hb hn hn1 hn4 hbn hta htb hap) rfl B F' rfl rfl X T C1 C2 N' (fun q hq => hq) (fun q hq => nomatch hq) (fun q hq => nomatch hq) (fun _ _ _ => trivial) (by dsimp only; omega) (by dsimp only; omega) ?_
  rintro v nd h2 tk2 F2 N2 off2 H
  rw [List.append_nil] at N2
  try dsimp only
  exact fin_use hQ F2 N2 H

theorem neg_mod {a b : Int} (hb : 1 ≤ b) : b + Builtin.bitNot (Builtin.bitNot a % b) = a % b := by
  unfold Builtin.bitNot
  have h1 := Int.emod_add_mul_ediv (-a - 1) b
  have h2 := Int.emod_nonneg (-a - 1) (show b ≠ 0 by omega)
  have h3 := Int.emod_lt_of_pos (-a - 1) (show 0 < b by omega)
  have h4 : a = (b - 1 - (-a - 1) % b) + b * (-((-a - 1) / b) - 1) := by
    rw [Int.mul_sub, Int.mul_neg]; omega
  have h5 : a % b = (b - 1 - (-a - 1) % b) % b := by
    conv => lhs; rw [h4]
    rw [Int.add_mul_emod_self_left]
  have h6 : (b - 1 - (-a - 1) % b) % b = b - 1 - (-a - 1) % b := Int.emod_eq_of_lt (by omega) (by omega)
  rw [h5, h6]
  omega

theorem idm {a b : Int} {u1 u2 : Tok} (ha : -100000 ≤ a) (ha' : a ≤ 100000) (hb : 1 ≤ b) (hb9 : b ≤ 9)
    {ta tb : List (Addr × Obj)} (hta : TabA ta) (htb : TabB tb) (hap : Apart ta tb) :
    Spec w p loose mean mg mb 170 5200 56 [.int a u1, .int b u2] (fun _ => True) (ta ++ tb) (IsDM (a % b)) := by
  unfold Spec
  k_fill
  intro dp un gd env outer base g s Q E B X T C1 C2 hG hdp hun st hsz N hQ
  rcases Int.lt_or_le a 0 with hneg | hpos
  case inr => exact idm_pos hpos (by omega) hb hb9 hta htb hap dp un gd env outer base g s Q E B X T C1 C2 trivial (by omega) (by omega) st hsz N hQ
  have hb0 : (b == 0) = false := beq_eq_false_iff_ne.mpr (by omega)
  have hb1 : decide (b < 0) = false := decide_eq_false (by omega)
  have ha1 : decide (a < 0) = true := decide_eq_true hneg
  refine enter_plain X T st hsz N (by k_is) (by k_is) (by omega) (BindsTo.of_eq rfl) (locs rfl) ?_ rfl rfl rfl (by decide)
  intro L h₁ F' N' hlt
  (try k_fold)
  k_steps
  have hn0 : 0 ≤ Builtin.bitNot a := by unfold Builtin.bitNot; omega
  have hn1 : Builtin.bitNot a < 2 ^ 20 := by unfold Builtin.bitNot; omega
  refine Stop.mk ?_
  refine' Spec.use (rest := []) (idm_pos hn0 hn1 hb hb9 hta htb hap) rfl B F' rfl rfl X T C1 C2 N' (fun q hq => hq) (fun q hq => nomatch hq) (fun q hq => nomatch hq) (fun _ _ _ => trivial) (by dsimp only; omega) (by dsimp only; omega) ?_
  rintro v nd h2 tk2 F2 N2 off2 ⟨t, q, tq, tr, ta2, tb2, rfl, rfl, hta2, htb2, hap2⟩
  rw [List.append_nil] at N2
  try dsimp only
  try k_fold
  k_steps
  rename_i h7 t7 h8 F8 N8 lt8
  refine fin_use (need' := (t7, tup2 (Builtin.bitNot q) (b + Builtin.bitNot (Builtin.bitNot a % b)) _ _) :: (ta2 ++ tb2)) hQ F8 (cb_drop N8 (List.forall_mem_cons.mpr ⟨.head _, fun q hq => .tail _ (.tail _ hq)⟩)) ?_
  rw [neg_mod hb]
  exact ⟨t7, _, _, _, ta2, tb2, rfl, rfl, hta2, htb2, hap2⟩

/-- both tables as one ledger -/
def Tabs (tl : List (Addr × Obj)) : Prop := ∃ ta tb, tl = ta ++ tb ∧ TabA ta ∧ TabB tb ∧ Apart ta tb
def IsMod (r : Int) (v : Value) (nd : List (Addr × Obj)) : Prop :=
  ∃ t q tq tr tl, v = .ref t ∧ nd = (t, tup2 q r tq tr) :: tl ∧ Tabs tl
theorem IsDM.mod {r : Int} {v : Value} {nd : List (Addr × Obj)} (h : IsDM r v nd) : IsMod r v nd := by
  obtain ⟨t, q, tq, tr, ta, tb, h1, h2, h3, h4, h5⟩ := h
  exact ⟨t, q, tq, tr, _, h1, h2, ta, tb, rfl, h3, h4, h5⟩
theorem Spec.mono {dd uu : Nat} {f : Addr} {vs : List Value} {G : Heap → Prop} {need : List (Addr × Obj)} {Post Post' : Value → List (Addr × Obj) → Prop} (S : Spec w p loose mean mg mb dd uu f vs G need Post)
    (h : ∀ v nd, Post v nd → Post' v nd) : Spec w p loose mean mg mb dd uu f vs G need Post' := by
  unfold Spec at S ⊢
  exact fun dp un gd env outer base g s Q E B X T C1 C2 hG hdp hun st hsz N hQ => S dp un gd env outer base g s Q E B X T C1 C2 hG hdp hun st hsz N fun v nd h' tk' st' N' P => hQ v nd h' tk' st' N' (h v nd P)

theorem idm' {a b : Int} {u1 u2 : Tok} (ha : -100000 ≤ a) (ha' : a ≤ 100000) (hb : 1 ≤ b) (hb9 : b ≤ 9) {tl : List (Addr × Obj)} (ht : Tabs tl) :
    Spec w p loose mean mg mb 170 5200 56 [.int a u1, .int b u2] (fun _ => True) tl (IsMod (a % b)) := by
  obtain ⟨ta, tb, rfl, h1, h2, h3⟩ := ht
  exact (idm ha ha' hb hb9 h1 h2 h3).mono fun _ _ h => h.mod

def IsRests (r1 r2 : Int) (v : Value) (nd : List (Addr × Obj)) : Prop :=
  ∃ t t1 t2 tl, v = .ref t ∧ nd = (t, tup2 r1 r2 t1 t2) :: tl ∧ Tabs tl

theorem rests {a b c : Int} {u1 u2 u3 : Tok} (ha : -100000 ≤ a) (ha' : a ≤ 100000) (hb : 1 ≤ b) (hb9 : b ≤ 9) (hc : 1 ≤ c) (hc9 : c ≤ 9) {tl : List (Addr × Obj)} (ht : Tabs tl) :
    Spec w p loose mean mg mb 180 5300 81 [.int a u1, .int b u2, .int c u3] (fun _ => True) tl (IsRests (a % b) (a % c)) := by
  unfold Spec
  k_fill
  intro dp un gd env outer base g s Q E B X T C1 C2 hG hdp hun st hsz N hQ
  refine enter_plain X T st hsz N (by k_is) (by k_is) (by omega) (BindsTo.of_eq rfl) (locs rfl) ?_ rfl rfl rfl (by decide)
  intro L h₁ F' N' hlt
  (try k_fold)
  k_steps
  refine Stop.mk ?_
  refine' Spec.use (rest := []) (idm' ha ha' hb hb9 ht) rfl B F' rfl rfl X T C1 C2 N' (fun q hq => hq) (fun q hq => nomatch hq) (fun q hq => nomatch hq) (fun _ _ _ => trivial) (by dsimp only; omega) (by dsimp only; omega) ?_
  rintro v nd h2 tk2 F2 N2 off2 ⟨t, q, tq, tr, tl2, rfl, rfl, ht2⟩
  rw [List.append_nil] at N2
  try dsimp only
  try k_fold
  k_steps
  refine Stop.mk ?_
  refine' Spec.use (rest := []) (idm' ha ha' hc hc9 ht2) rfl B F2 rfl rfl X T C1 C2 N2 (fun q hq => .tail _ hq) (fun q hq => nomatch hq) (fun q hq => nomatch hq) (fun _ _ _ => trivial) (by dsimp only; omega) (by dsimp only; omega) ?_
  rintro v nd h3 tk3 F3 N3 off3 ⟨t', q', tq', tr', tl3, rfl, rfl, ht3⟩
  rw [List.append_nil] at N3
  clear F2 N2
  try dsimp only
  try k_fold
  k_steps
  rename_i t7 h8 F8 N8 lt8
  exact fin_use (need' := (t7, tup2 (a % b) (a % c) _ _) :: tl3) hQ F8 (cb_drop N8 (List.forall_mem_cons.mpr ⟨.head _, fun q hq => .tail _ (.tail _ hq)⟩)) ⟨t7, _, _, _, rfl, rfl, ht3⟩
end
end Mine

namespace Mine

/-- an exact tuple of ints at an address -/
abbrev TupAt (prog : Program) (w : World) (h : Heap) (ns : List Int) (a : Addr) : Prop := IsTupleKey (intKind prog w) h ns a

def lexLt : List Int → List Int → Bool
  | x :: xs, y :: ys => if x = y then lexLt xs ys else decide (x < y)
  | _, _ => false

section
variable {prog : Program} {w : World} {A : Around} {E : Value → Shared → Prop} {s : Shared}

theorem tuple_lt_tree {x y : List Int} {a b : Addr} {R : Fin → Shared → Prop} (hx : TupAt prog w s.heap x a) (hy : TupAt prog w s.heap y b) (hlen : x.length = y.length) (h : R (.done (.ret (.bool (lexLt x y)))) s) :
    wpAny (model prog w) A (Builtin.«tuple.__lt__» ⟨[.ref a, .ref b], []⟩) R E s := by
  have hTb := hy.typeIs
  obtain ⟨oa, xs, na, hoa, _, hda, hia⟩ := hx
  obtain ⟨ob, ys, nb, hob, _, hdb, hib⟩ := hy
  show wpAny _ _ (isInstance (.ref b) (.type "tuple") >>= _) _ _ s
  refine wpAny_bind (wpAny_isInstance hTb isSubtype_tuple_tuple ?_)
  simp only [Bool.not_true, Bool.false_eq_true, if_false]
  refine wpAny_bind (wpAny_tupleItemsOf hoa hda ?_)
  refine wpAny_bind (wpAny_tupleItemsOf hob hdb ?_)
  refine wpAny_bind ?_
  refine wpAny_forIn_list _
    (fun rest r s' => (r.1 = none ∧ s' = s ∧ ∃ x' y' xs' ys', rest = List.zip xs' ys' ∧ ItemsAre (intKind prog w) x' xs' ∧ ItemsAre (intKind prog w) y' ys' ∧ lexLt x' y' = lexLt x y ∧ x'.length = y'.length))
    _ ?_ ?_ _ _ ⟨rfl, rfl, x, y, xs.toList, ys.toList, rfl, hia, hib, rfl, hlen⟩
  · rintro ⟨u, v⟩ rest r s' ⟨hr, rfl, x', y', xs', ys', hz, hx', hy', hlex, hl⟩
    cases hx' with
    | nil => simp at hz
    | @cons k1 u' x'' xs'' h1 hx'' =>
      cases hy' with
      | nil => simp at hz
      | @cons k2 v' y'' ys'' h2 hy'' =>
        simp only [List.zip_cons_cons, List.cons.injEq, Prod.mk.injEq] at hz
        obtain ⟨⟨rfl, rfl⟩, rfl⟩ := hz
        refine wpAny_bind ((intKind prog w).eqBool (a := k1) (b := k2) h1 h2 ?_)
        by_cases hk : k1 = k2
        · subst hk
          rw [decide_eq_true rfl]
          simp only [Bool.not_true, Bool.false_eq_true, if_false]
          refine wpAny_pure ⟨rfl, rfl, x'', y'', xs'', ys'', rfl, hx'', hy'', ?_, by simpa using hl⟩
          rw [← hlex]
          simp [lexLt]
        · rw [decide_eq_false hk]
          simp only [Bool.not_false, if_true]
          have hf : lexLt x y = decide (k1 < k2) := by rw [← hlex]; simp [lexLt, hk]
          rw [hf] at h
          obtain ⟨t1, rfl⟩ := Value.isInt_shape h1
          obtain ⟨t2, rfl⟩ := Value.isInt_shape h2
          have key : wpAny (model prog w) A (richCompare .Lt (.int k1 t1) (.int k2 t2)) (fun v s₂ => v = .bool (decide (k1 < k2)) ∧ s₂ = s') E s' := P.lt_int (Q := fun v s₂ => v = .bool (decide (k1 < k2)) ∧ s₂ = s') ⟨rfl, rfl⟩
          refine wpAny_bind (wpAny_rule ?_)
          refine wpAny_bind (wpAny_mono key ?_ fun _ _ e => e)
          rintro v s₂ ⟨rfl, rfl⟩
          exact wpAny_bind (wpAny_pure (wpAny_pure (wpAny_pure h)))
  · rintro ⟨r1, r2⟩ s' ⟨hr, rfl, x', y', xs', ys', hz, hx', hy', hlex, hl⟩
    simp only at hr
    subst hr
    have hfin : lexLt x y = false := by
      rw [← hlex]
      cases hx' with
      | nil => rfl
      | cons _ _ =>
        cases hy' with
        | nil => rfl
        | cons _ _ => simp at hz
    rw [hfin] at h
    refine wpAny_pure ?_
    have e1 : x.length = xs.size := by have := PySem.ItemsAre.length hia; simpa using this
    have e2 : y.length = ys.size := by have := PySem.ItemsAre.length hib; simpa using this
    have e3 : xs.size = ys.size := by omega
    rw [e3]
    have e4 : Builtin.Tuple.tupleCompareSizes .Lt ys.size ys.size = .bool false := by unfold Builtin.Tuple.tupleCompareSizes; simp
    rw [e4]
    exact h
theorem tuple_ge_tree {x y : List Int} {a b : Addr} {R : Fin → Shared → Prop} (hx : TupAt prog w s.heap x a) (hy : TupAt prog w s.heap y b) (hlen : x.length = y.length) (h : R (.done (.ret (.bool (!lexLt x y)))) s) :
    wpAny (model prog w) A (Builtin.«tuple.__ge__» ⟨[.ref a, .ref b], []⟩) R E s := by
  have hTb := hy.typeIs
  obtain ⟨oa, xs, na, hoa, _, hda, hia⟩ := hx
  obtain ⟨ob, ys, nb, hob, _, hdb, hib⟩ := hy
  show wpAny _ _ (isInstance (.ref b) (.type "tuple") >>= _) _ _ s
  refine wpAny_bind (wpAny_isInstance hTb isSubtype_tuple_tuple ?_)
  simp only [Bool.not_true, Bool.false_eq_true, if_false]
  refine wpAny_bind (wpAny_tupleItemsOf hoa hda ?_)
  refine wpAny_bind (wpAny_tupleItemsOf hob hdb ?_)
  refine wpAny_bind ?_
  refine wpAny_forIn_list _
    (fun rest r s' => (r.1 = none ∧ s' = s ∧ ∃ x' y' xs' ys', rest = List.zip xs' ys' ∧ ItemsAre (intKind prog w) x' xs' ∧ ItemsAre (intKind prog w) y' ys' ∧ lexLt x' y' = lexLt x y ∧ x'.length = y'.length))
    _ ?_ ?_ _ _ ⟨rfl, rfl, x, y, xs.toList, ys.toList, rfl, hia, hib, rfl, hlen⟩
  · rintro ⟨u, v⟩ rest r s' ⟨hr, rfl, x', y', xs', ys', hz, hx', hy', hlex, hl⟩
    cases hx' with
    | nil => simp at hz
    | @cons k1 u' x'' xs'' h1 hx'' =>
      cases hy' with
      | nil => simp at hz
      | @cons k2 v' y'' ys'' h2 hy'' =>
        simp only [List.zip_cons_cons, List.cons.injEq, Prod.mk.injEq] at hz
        obtain ⟨⟨rfl, rfl⟩, rfl⟩ := hz
        refine wpAny_bind ((intKind prog w).eqBool (a := k1) (b := k2) h1 h2 ?_)
        by_cases hk : k1 = k2
        · subst hk
          rw [decide_eq_true rfl]
          simp only [Bool.not_true, Bool.false_eq_true, if_false]
          refine wpAny_pure ⟨rfl, rfl, x'', y'', xs'', ys'', rfl, hx'', hy'', ?_, by simpa using hl⟩
          rw [← hlex]
          simp [lexLt]
        · rw [decide_eq_false hk]
          simp only [Bool.not_false, if_true]
          have hf : lexLt x y = decide (k1 < k2) := by rw [← hlex]; simp [lexLt, hk]
          rw [hf] at h
          have hg : (!decide (k1 < k2)) = decide (k1 ≥ k2) := by by_cases h7 : k1 < k2 <;> simp [h7] <;> omega
          rw [hg] at h
          obtain ⟨t1, rfl⟩ := Value.isInt_shape h1
          obtain ⟨t2, rfl⟩ := Value.isInt_shape h2
          have key : wpAny (model prog w) A (richCompare .GtE (.int k1 t1) (.int k2 t2)) (fun v s₂ => v = .bool (decide (k1 ≥ k2)) ∧ s₂ = s') E s' := P.ge_int (Q := fun v s₂ => v = .bool (decide (k1 ≥ k2)) ∧ s₂ = s') ⟨rfl, rfl⟩
          refine wpAny_bind (wpAny_rule ?_)
          refine wpAny_bind (wpAny_mono key ?_ fun _ _ e => e)
          rintro v s₂ ⟨rfl, rfl⟩
          exact wpAny_bind (wpAny_pure (wpAny_pure (wpAny_pure h)))
  · rintro ⟨r1, r2⟩ s' ⟨hr, rfl, x', y', xs', ys', hz, hx', hy', hlex, hl⟩
    simp only at hr
    subst hr
    have hfin : lexLt x y = false := by
      rw [← hlex]
      cases hx' with
      | nil => rfl
      | cons _ _ =>
        cases hy' with
        | nil => rfl
        | cons _ _ => simp at hz
    rw [hfin] at h
    refine wpAny_pure ?_
    have e1 : x.length = xs.size := by have := PySem.ItemsAre.length hia; simpa using this
    have e2 : y.length = ys.size := by have := PySem.ItemsAre.length hib; simpa using this
    have e3 : xs.size = ys.size := by omega
    rw [e3]
    have e4 : Builtin.Tuple.tupleCompareSizes .GtE ys.size ys.size = .bool true := by unfold Builtin.Tuple.tupleCompareSizes; simp
    rw [e4]
    exact h

variable {x y : List Int} {a b : Addr} {Q : Value → Shared → Prop}
theorem lt_tup (hu : A.units < cLine) (hx : TupAt prog w s.heap x a) (hy : TupAt prog w s.heap y b) (hlen : x.length = y.length) (h : Q (.bool (lexLt x y)) s) :
    wpAny (model prog w) A (compareOp .Lt (.ref a) (.ref b)) Q E s :=
  wpAny_richCompare_same_room (op := .Lt) hx.typeIs hy.typeIs F.slot_tuple_lt
    (wpAny_call_entry F.slot_tuple_lt hx.typeIs F.entry_tuple_lt (tuple_lt_tree hx hy hlen ⟨_, rfl, (fun e => nomatch e), h⟩) (F.args_tuple_lt_2 _ _)) hu
theorem ge_tup (hu : A.units < cLine) (hx : TupAt prog w s.heap x a) (hy : TupAt prog w s.heap y b) (hlen : x.length = y.length) (h : Q (.bool (!lexLt x y)) s) :
    wpAny (model prog w) A (compareOp .GtE (.ref a) (.ref b)) Q E s :=
  wpAny_richCompare_same_room (op := .GtE) hx.typeIs hy.typeIs F.slot_tuple_ge
    (wpAny_call_entry F.slot_tuple_ge hx.typeIs F.entry_tuple_ge (tuple_ge_tree hx hy hlen ⟨_, rfl, (fun e => nomatch e), h⟩) (F.args_tuple_ge_2 _ _)) hu
theorem eq_tup (hu : A.units < cLine) (hx : TupAt prog w s.heap x a) (hy : TupAt prog w s.heap y b) (h : Q (.bool (decide (x = y))) s) :
    wpAny (model prog w) A (compareOp .Eq (.ref a) (.ref b)) Q E s :=
  wpAny_richCompare_same_room (op := .Eq) hx.typeIs hy.typeIs F.slot_tuple_eq
    (wpAny_call_entry F.slot_tuple_eq hx.typeIs F.entry_tuple_eq (tuple_eq_tree hx hy ⟨_, rfl, (fun e => nomatch e), h⟩) (F.args_tuple_eq_2 _ _)) hu
end
end Mine

namespace Mine

abbrev PROG : Program := PySem.Challenge.rw_zt0003_01.row.prog

/-- the items of a list are tuples of ints -/
structure RowsAt (w : World) (h : Heap) (vs : List Value) (rows : List (List Int)) : Prop where
  len : vs.length = rows.length
  row : ∀ (i : Nat) (row : List Int), rows[i]? = some row → ∃ t : Addr, vs[i]? = some (Value.ref t) ∧ TupAt PROG w h row t
theorem TupAt.keep {w : World} {g h : Heap} {ns : List Int} {t : Addr} (k : g.StaysIn h) (x : TupAt PROG w g ns t) : TupAt PROG w h ns t := by
  obtain ⟨o, items, n, ho, r⟩ := x
  exact ⟨o, items, n, k _ _ ho, r⟩
theorem RowsAt.keep {w : World} {g h : Heap} {vs : List Value} {rows : List (List Int)} (k : g.StaysIn h) (x : RowsAt w g vs rows) : RowsAt w h vs rows :=
  ⟨x.len, fun i row e => let ⟨t, h1, h2⟩ := x.row i row e; ⟨t, h1, h2.keep k⟩⟩

theorem list_up {g h : Heap} {L la : Addr} {m : Str → Option Value} {items : Array Value} (hl : g.IsList la items) (F : Fr g L h m) : h.IsList la items := hl.at fun o e => F.keep _ o e
theorem tup_up {w : World} {g h : Heap} {L t : Addr} {m : Str → Option Value} {ns : List Int} (x : TupAt PROG w g ns t) (F : Fr g L h m) : TupAt PROG w h ns t := x.keep F.keep
theorem while_end {h₀ : Heap} {L : Addr} {s : Shared} {J : Nat → (Str → Option Value) → List (Addr × Obj) → Prop} {Q : Flow → Shared → Prop} {n n' : Nat} {h' : Heap} {tk : Nat} {m₂ : Str → Option Value} {news₂ : List (Addr × Obj)}
    (F : Fr h₀ L h' m₂) (N : News h₀ L h' news₂) (hn : n' < n) (j : J n' m₂ news₂) : WhileStep2 h₀ L s J Q n .next { s with heap := h', toks := tk } := ⟨h', tk, m₂, news₂, n', rfl, F, N, hn, j⟩
/-- a place in sorted rows -/
def IsPlace (c : Nat → Bool) (n : Nat) (i : Nat) : Prop := i ≤ n ∧ (∀ j, j < i → c j = true) ∧ ∀ j, i ≤ j → j < n → c j = false
def PlacePost (c : Nat → Bool) (n : Nat) (v : Value) (nd : List (Addr × Obj)) : Prop := nd = [] ∧ ∃ i t, v = .int ((i : Nat) : Int) t ∧ IsPlace c n i

section
variable {prog : Program} {w : World} {A : Around} {E : Value → Shared → Prop} {s : Shared} {Q : Value → Shared → Prop}
theorem len_is {l : Addr} {items : Array Value} {n : Nat} (hl : s.heap.IsList l items) (he : items.size = n) (hn : n ≤ 1000000)
    (h : Q (.int (n : Int) (s.toks + 1)) { s with toks := s.toks + 1 + 1 }) : wpAny (model prog w) A (call (.builtin "len") [.ref l]) Q E s :=
  len_list hl (by rw [he]; omega) (by rw [he]; exact h)
end
section
variable {w : World} {p : Program} {loose : List Str} {mean : ExcName → Option Value} {mg mb : Str → Option Value}
local macro_rules | `(tactic| walk_at "call ref") => `(tactic| refine Stop.go ?_)
local macro_rules | `(tactic| walk_at "exec While Compare cons nil") => `(tactic| refine Stop.go ?_)
local macro_rules | `(tactic| walk_at "eval Name") => `(tactic| (refine' ld ?k1 ?k2 ?_; (case k1 => k_asm); (case k2 => assumption); k_whole))
local macro_rules | `(tactic| walk_at "call builtin:len") => `(tactic| ((refine' len_is ?k1 ?k2 ?k3 ?_); (case k1 => exact list_up (by assumption) (by assumption)); (case k2 => assumption); (case k3 => omega)))
local macro_rules | `(tactic| walk_at "subscriptTail") => `(tactic| ((refine' item_list ?k1 ?k2 ?k3 ?k4 ?_ ?k5 ?k6); (case k1 => exact list_up (by assumption) (by assumption)); (case k2 => assumption); (case k3 => assumption); (case k4 => assumption); (case k5 => with_unfolding_all rfl); (case k6 => (intro _; with_unfolding_all rfl))))
local macro_rules | `(tactic| walk_at "compareOp Lt ref ref") => `(tactic| ((refine' lt_tup ?k1 ?k2 ?k3 ?k4 ?_); (case k2 => exact tup_up (by assumption) (by assumption)); (case k3 => exact tup_up (by assumption) (by assumption)); (case k4 => assumption); (case k1 => first | omega | (simp only [units_deeper]; omega) | (simp only [units_deeper]; dsimp only; omega))))
local macro_rules | `(tactic| walk_at "binaryOp FloorDiv int int") => `(tactic| ((with_reducible refine' floordiv_as ?k1 ?k2 ?k3 ?_); (case k1 => decide); (case k2 => assumption); (case k3 => assumption)))

def BisJ (la tx : Addr) (c : Nat → Bool) (n : Nat) (k : Nat) (m : Str → Option Value) (news : List (Addr × Obj)) : Prop :=
  ∃ (lo hi : Nat) (t1 t2 : Tok), news = [] ∧ k = hi - lo ∧ lo ≤ hi ∧ hi ≤ n ∧ (∀ j, j < lo → c j = true) ∧ (∀ j, hi ≤ j → j < n → c j = false) ∧
    m (Str.ofString "lo") = some (.int (lo : Int) t1) ∧ m (Str.ofString "hi") = some (.int (hi : Int) t2) ∧ m (Str.ofString "a") = some (.ref la) ∧ m (Str.ofString "x") = some (.ref tx)

theorem bis {la tx : Addr} {vs : List Value} {rows : List (List Int)} {x : List Int} {ex : List Value} (hex : ex = [] ∨ ∃ t, ex = [.int 0 t, .none]) (hd : ∀ row ∈ rows, row.length = x.length) (hn : rows.length ≤ 1000)
    (hmono : ∀ i j, i ≤ j → j < rows.length → lexLt (rows.getD j []) x = true → lexLt (rows.getD i []) x = true) :
    Spec w p loose mean mg mb 10 100 74 (.ref la :: .ref tx :: ex) (fun g => g.IsList la vs.toArray ∧ RowsAt w g vs rows ∧ TupAt PROG w g x tx) [] (PlacePost (fun j => lexLt (rows.getD j []) x) rows.length) := by
  unfold Spec
  w_top off
  k_fill
  intro dp un gd env outer base g s Q E B X T C1 C2 ⟨hla, hrows, htx⟩ hdp hun st hsz N hQ
  have hvl := hrows.len
  have hsz9 : vs.toArray.size = rows.length := by rw [List.size_toArray]; exact hvl
  rcases hex with rfl | ⟨t0, rfl⟩
  · refine enter_plain X T st hsz N (by k_is) (by k_is) (by omega) (kp_binds (X.keeps st) (fun _ => rfl)) (locs rfl) ?_ rfl rfl rfl (by decide)
    intro L h₁ F' N' hlt
    (try k_fold)
    k_steps
    rename_i h9 F9 N9
    refine Stop.mk ?_
    refine While_inv2 (BisJ la tx (fun j => lexLt (rows.getD j []) x) rows.length) F9 N9 ⟨0, rows.length, _, _, rfl, rfl, Nat.zero_le _, Nat.le_refl _, (fun j hj => absurd hj (Nat.not_lt_zero _)), (fun j h1 h2 => absurd h2 (Nat.not_lt.mpr h1)), rfl, rfl, rfl, rfl⟩ ?_
    clear F9 N9
    rintro k m news h tk F N ⟨lo, hi, t1, t2, rfl, rfl, hlh, hhn, hlo, hhi, e1, e2, e3, e4⟩
    rcases Nat.lt_or_ge lo hi with hlt | hge
    · have hb : decide ((lo : Int) < (hi : Int)) = true := decide_eq_true (by omega)
      obtain ⟨mid, hmid, hm1, hm2⟩ : ∃ mid : Nat, ((lo : Int) + (hi : Int)).fdiv 2 = (mid : Int) ∧ lo ≤ mid ∧ mid < hi := by
        refine ⟨(lo + hi) / 2, ?_, by omega, by omega⟩
        rw [Int.fdiv_eq_ediv_of_nonneg _ (by omega)]
        omega
      have hpl : Builtin.divisionGoesByPylong ((lo : Int) + (hi : Int)) 2 = false := PyProof.noPylong_small (by omega)
      have hm0 : (0 : Int) ≤ (mid : Int) := by omega
      have hm3 : (mid : Int) < 2 ^ 63 := by omega
      obtain ⟨row, hrow⟩ : ∃ row, rows[mid]? = some row := ⟨_, List.getElem?_eq_getElem (by omega)⟩
      obtain ⟨t, hvt, htup⟩ := hrows.row mid row hrow
      have hit : vs.toArray[((mid : Nat) : Int).toNat]? = some (.ref t) := by rw [Int.toNat_natCast]; simpa using hvt
      have hln : row.length = x.length := hd row (List.mem_of_getElem? hrow)
      have hgd : rows.getD mid [] = row := by rw [List.getD_eq_getElem?_getD, hrow]; rfl
      cases hc : lexLt row x with
      | true =>
        (try k_fold)
        k_steps
        rename_i hz Fz Nz
        refine while_end Fz Nz (n' := hi - (mid + 1)) (by omega) ⟨mid + 1, hi, _, t2, rfl, rfl, by omega, hhn, ?_, hhi, rfl, e2, e3, e4⟩
        intro j hj
        exact hmono j mid (by omega) (by omega) (by rw [hgd]; exact hc)
      | false =>
        (try k_fold)
        k_steps
        rename_i hz Fz Nz
        refine while_end Fz Nz (n' := mid - lo) (by omega) ⟨lo, mid, t1, _, rfl, rfl, by omega, by omega, hlo, ?_, e1, rfl, e3, e4⟩
        intro j hj hjn
        cases hcj : lexLt (rows.getD j []) x with
        | false => exact hcj
        | true =>
          have := hmono mid j hj hjn hcj
          rw [hgd, hc] at this
          cases this
    · have hb : decide ((lo : Int) < (hi : Int)) = false := decide_eq_false (by omega)
      (try k_fold)
      k_steps
      dsimp only
      exact fin_use hQ F N ⟨rfl, lo, t1, rfl, by omega, hlo, fun j h1 h2 => hhi j (by omega) h2⟩
  · refine enter_plain X T st hsz N (by k_is) (by k_is) (by omega) (kp_binds (X.keeps st) (fun _ => rfl)) (locs rfl) ?_ rfl rfl rfl (by decide)
    intro L h₁ F' N' hlt
    (try k_fold)
    k_steps
    rename_i h9 F9 N9
    refine Stop.mk ?_
    refine While_inv2 (BisJ la tx (fun j => lexLt (rows.getD j []) x) rows.length) F9 N9 ⟨0, rows.length, _, _, rfl, rfl, Nat.zero_le _, Nat.le_refl _, (fun j hj => absurd hj (Nat.not_lt_zero _)), (fun j h1 h2 => absurd h2 (Nat.not_lt.mpr h1)), rfl, rfl, rfl, rfl⟩ ?_
    clear F9 N9
    rintro k m news h tk F N ⟨lo, hi, t1, t2, rfl, rfl, hlh, hhn, hlo, hhi, e1, e2, e3, e4⟩
    rcases Nat.lt_or_ge lo hi with hlt | hge
    · have hb : decide ((lo : Int) < (hi : Int)) = true := decide_eq_true (by omega)
      obtain ⟨mid, hmid, hm1, hm2⟩ : ∃ mid : Nat, ((lo : Int) + (hi : Int)).fdiv 2 = (mid : Int) ∧ lo ≤ mid ∧ mid < hi := by
        refine ⟨(lo + hi) / 2, ?_, by omega, by omega⟩
        rw [Int.fdiv_eq_ediv_of_nonneg _ (by omega)]
        omega
      have hpl : Builtin.divisionGoesByPylong ((lo : Int) + (hi : Int)) 2 = false := PyProof.noPylong_small (by omega)
      have hm0 : (0 : Int) ≤ (mid : Int) := by omega
      have hm3 : (mid : Int) < 2 ^ 63 := by omega
      obtain ⟨row, hrow⟩ : ∃ row, rows[mid]? = some row := ⟨_, List.getElem?_eq_getElem (by omega)⟩
      obtain ⟨t, hvt, htup⟩ := hrows.row mid row hrow
      have hit : vs.toArray[((mid : Nat) : Int).toNat]? = some (.ref t) := by rw [Int.toNat_natCast]; simpa using hvt
      have hln : row.length = x.length := hd row (List.mem_of_getElem? hrow)
      have hgd : rows.getD mid [] = row := by rw [List.getD_eq_getElem?_getD, hrow]; rfl
      cases hc : lexLt row x with
      | true =>
        (try k_fold)
        k_steps
        rename_i hz Fz Nz
        refine while_end Fz Nz (n' := hi - (mid + 1)) (by omega) ⟨mid + 1, hi, _, t2, rfl, rfl, by omega, hhn, ?_, hhi, rfl, e2, e3, e4⟩
        intro j hj
        exact hmono j mid (by omega) (by omega) (by rw [hgd]; exact hc)
      | false =>
        (try k_fold)
        k_steps
        rename_i hz Fz Nz
        refine while_end Fz Nz (n' := mid - lo) (by omega) ⟨lo, mid, t1, _, rfl, rfl, by omega, by omega, hlo, ?_, e1, rfl, e3, e4⟩
        intro j hj hjn
        cases hcj : lexLt (rows.getD j []) x with
        | false => exact hcj
        | true =>
          have := hmono mid j hj hjn hcj
          rw [hgd, hc] at this
          cases this
    · have hb : decide ((lo : Int) < (hi : Int)) = false := decide_eq_false (by omega)
      (try k_fold)
      k_steps
      dsimp only
      exact fin_use hQ F N ⟨rfl, lo, t1, rfl, by omega, hlo, fun j h1 h2 => hhi j (by omega) h2⟩
end
end Mine

namespace Mine
section
variable {w : World} {p : Program} {loose : List Str} {mean : ExcName → Option Value} {mg mb : Str → Option Value}
local macro_rules | `(tactic| walk_at "call ref") => `(tactic| refine Stop.go ?_)
local macro_rules | `(tactic| walk_at "call builtin:list.insert") => `(tactic| refine Stop.go ?_)

def InsPost (la tx : Addr) (vs : List Value) (c : Nat → Bool) (n : Nat) (v : Value) (nd : List (Addr × Obj)) : Prop :=
  v = .none ∧ ∃ i ep, nd = [(la, listOf (vs.take i ++ [Value.ref tx] ++ vs.drop i).toArray ep)] ∧ IsPlace c n i

theorem ins {la tx : Addr} {vs : List Value} {ep : Nat} {rows : List (List Int)} {x : List Int} (hd : ∀ row ∈ rows, row.length = x.length) (hn : rows.length ≤ 1000)
    (hmono : ∀ i j, i ≤ j → j < rows.length → lexLt (rows.getD j []) x = true → lexLt (rows.getD i []) x = true) :
    Spec w p loose mean mg mb 20 200 65 [.ref la, .ref tx] (fun g => RowsAt w g vs rows ∧ TupAt PROG w g x tx) [(la, listOf vs.toArray ep)] (InsPost la tx vs (fun j => lexLt (rows.getD j []) x) rows.length) := by
  unfold Spec
  w_top off
  k_fill
  intro dp un gd env outer base g s Q E B X T C1 C2 ⟨hrows, htx⟩ hdp hun st hsz N hQ
  have hvl := hrows.len
  refine enter_plain X T st hsz N (by k_is) (by k_is) (by omega) (kp_binds (X.keeps st) (fun _ => rfl)) (locs rfl) ?_ rfl rfl rfl (by decide)
  intro L h₁ F' N' hlt
  (try k_fold)
  k_steps
  refine Stop.mk ?_
  refine' Spec.use (rest := [(la, listOf vs.toArray ep)]) (bis (ex := [.int 0 _, .none]) (.inr ⟨_, rfl⟩) hd hn hmono) rfl B F' rfl rfl X T C1 C2 N' (fun q hq => nomatch hq) (fun q hq => hq) (fun q hq n hn => nomatch hn) ?hG (by dsimp only; omega) (by dsimp only; omega) ?_
  case hG => exact fun g' sg hr => ⟨⟨_, hr _ (.head _), rfl, ep, rfl⟩, hrows.keep sg, htx.keep sg⟩
  rintro v nd h2 tk2 F2 N2 off2 ⟨rfl, i, ti, rfl, hi⟩
  rw [List.nil_append] at N2
  try dsimp only
  try k_fold
  k_steps
  rename_i h4 F4 N4
  obtain ⟨hin, _, _⟩ := id hi
  have hins : kl_ins vs.toArray.toList (i : Int) (Value.ref tx) = vs.take i ++ [Value.ref tx] ++ vs.drop i := by
    unfold kl_ins
    have h0 : ¬ ((i : Int) < 0) := by omega
    have h1 : min i vs.length = i := by omega
    simp only [h0, if_false, Int.toNat_natCast, h1]
    simp
  refine Stop.mk ?_
  refine' kl_insert (its := vs.toArray) (l := vs.take i ++ [Value.ref tx] ++ vs.drop i) F4 N4 ?hf hins (.head (fun _ h => nomatch h)) ?hz ?_
  case hf =>
    unfold Builtin.List.listFitsIndex
    rw [Bool.and_eq_true]
    exact ⟨decide_eq_true (by omega), decide_eq_true (by omega)⟩
  case hz =>
    show vs.length ≤ sizeLine
    unfold sizeLine
    omega
  intro h5 F5 N5
  clear F4 N4
  try dsimp only
  try k_fold
  k_steps
  exact fin_use hQ F5 N5 ⟨rfl, i, ep + 1, rfl, hi⟩
end
end Mine

namespace Mine

theorem lexLt_irrefl : ∀ x : List Int, lexLt x x = false
  | [] => rfl
  | a :: x => by unfold lexLt; rw [if_pos rfl]; exact lexLt_irrefl x
theorem lexLt_trans : ∀ {x y z : List Int}, lexLt x y = true → lexLt y z = true → lexLt x z = true
  | [], _, _, h, _ => by unfold lexLt at h; cases h
  | _ :: _, [], _, h, _ => by unfold lexLt at h; cases h
  | _ :: _, _ :: _, [], _, h => by unfold lexLt at h; cases h
  | a :: x, b :: y, c :: z, h1, h2 => by
    unfold lexLt at h1 h2 ⊢
    by_cases e1 : a = b
    · by_cases e2 : b = c
      · rw [if_pos e1] at h1; rw [if_pos e2] at h2; rw [if_pos (e1.trans e2)]; exact lexLt_trans h1 h2
      · rw [if_neg e2] at h2; have := of_decide_eq_true h2; rw [if_neg (by omega)]; exact decide_eq_true (by omega)
    · rw [if_neg e1] at h1
      have h1 := of_decide_eq_true h1
      by_cases e2 : b = c
      · rw [if_neg (by omega)]; exact decide_eq_true (by omega)
      · rw [if_neg e2] at h2; have := of_decide_eq_true h2; rw [if_neg (by omega)]; exact decide_eq_true (by omega)
theorem lexLt_tri : ∀ {x y : List Int}, x.length = y.length → lexLt x y = false → x ≠ y → lexLt y x = true
  | [], [], _, _, h => absurd rfl h
  | [], _ :: _, h, _, _ => by simp at h
  | _ :: _, [], h, _, _ => by simp at h
  | a :: x, b :: y, hl, h1, h2 => by
    unfold lexLt at h1 ⊢
    by_cases e : a = b
    · rw [if_pos e] at h1; rw [if_pos e.symm]
      exact lexLt_tri (by simpa using hl) h1 fun q => h2 (by rw [e, q])
    · rw [if_neg e] at h1; have := of_decide_eq_false h1
      rw [if_neg (fun q => e q.symm)]; exact decide_eq_true (by omega)

/-- rows in strict order -/
abbrev Ordered (rows : List (List Int)) : Prop := rows.Pairwise fun x y => lexLt x y = true

theorem Ordered.at {rows : List (List Int)} (h : Ordered rows) {i j : Nat} (hij : i < j) (hj : j < rows.length) : lexLt (rows.getD i []) (rows.getD j []) = true := by
  have hi : i < rows.length := by omega
  rw [List.getD_eq_getElem?_getD, List.getD_eq_getElem?_getD, List.getElem?_eq_getElem hi, List.getElem?_eq_getElem hj]
  exact List.pairwise_iff_getElem.mp h i j hi hj hij

theorem Ordered.mono {rows : List (List Int)} (h : Ordered rows) (x : List Int) (i j : Nat) (hij : i ≤ j) (hj : j < rows.length) (hl : lexLt (rows.getD j []) x = true) : lexLt (rows.getD i []) x = true := by
  rcases Nat.lt_or_ge i j with q | q
  · exact lexLt_trans (h.at q hj) hl
  · rw [show i = j by omega]; exact hl

theorem Ordered.place {rows : List (List Int)} (h : Ordered rows) {x : List Int} (hd : ∀ row ∈ rows, row.length = x.length) (hx : x ∉ rows) {p : Nat} (hp : IsPlace (fun j => lexLt (rows.getD j []) x) rows.length p) :
    Ordered (rows.take p ++ [x] ++ rows.drop p) := by
  obtain ⟨hp1, hp2, hp3⟩ := hp
  have before : ∀ a ∈ rows.take p, lexLt a x = true := by
    intro a ha
    obtain ⟨i, hi, rfl⟩ := List.getElem_of_mem ha
    have hi' : i < p := by rw [List.length_take] at hi; omega
    have := hp2 i hi'
    dsimp only at this
    rw [List.getD_eq_getElem?_getD, List.getElem?_eq_getElem (by omega)] at this
    rw [List.getElem_take]
    exact this
  have after : ∀ a ∈ rows.drop p, lexLt x a = true := by
    intro a ha
    have hm : a ∈ rows := List.mem_of_mem_drop ha
    refine lexLt_tri (hd a hm) ?_ fun q => hx (q ▸ hm)
    obtain ⟨i, hi, rfl⟩ := List.getElem_of_mem ha
    have hi' : p + i < rows.length := by rw [List.length_drop] at hi; omega
    have := hp3 (p + i) (by omega) hi'
    dsimp only at this
    rw [List.getD_eq_getElem?_getD, List.getElem?_eq_getElem hi'] at this
    rw [List.getElem_drop]
    exact this
  have h2 : Ordered (rows.take p) := h.sublist (List.take_sublist p rows)
  have h3 : Ordered (rows.drop p) := h.sublist (List.drop_sublist p rows)
  rw [List.append_assoc, List.singleton_append]
  refine List.pairwise_append.mpr ⟨h2, List.pairwise_cons.mpr ⟨after, h3⟩, fun a ha b hb => ?_⟩
  rcases List.mem_cons.mp hb with rfl | hb
  · exact before a ha
  · exact lexLt_trans (before a ha) (after b hb)

/-- a row of the law -/
def rowOf (one other : Int) (n : Nat) : List Int := [(n : Int) % one, (n : Int) % other, (n : Int)]
structure RowsOf (one other : Int) (i : Nat) (rows : List (List Int)) : Prop where
  ord : Ordered rows
  mem : ∀ row, row ∈ rows ↔ ∃ n : Nat, n < i ∧ row = rowOf one other n
  len : rows.length = i

theorem RowsOf.zero (one other : Int) : RowsOf one other 0 [] := ⟨.nil, fun row => ⟨fun h => (nomatch h), fun ⟨n, h, _⟩ => by omega⟩, rfl⟩
theorem RowsOf.dims {one other : Int} {i : Nat} {rows : List (List Int)} (h : RowsOf one other i rows) : ∀ row ∈ rows, row.length = 3 := by
  intro row hr
  obtain ⟨n, _, rfl⟩ := (h.mem row).mp hr
  rfl
theorem RowsOf.step {one other : Int} {i : Nat} {rows : List (List Int)} (h : RowsOf one other i rows) {p : Nat} (hp : IsPlace (fun j => lexLt (rows.getD j []) (rowOf one other i)) rows.length p) :
    RowsOf one other (i + 1) (rows.take p ++ [rowOf one other i] ++ rows.drop p) := by
  refine ⟨h.ord.place (fun row hr => (h.dims row hr).trans rfl) (fun hm => ?_) hp, fun row => ?_, ?_⟩
  · obtain ⟨n, hn, e⟩ := (h.mem _).mp hm
    unfold rowOf at e
    simp at e
    omega
  · have key : row ∈ rows.take p ++ [rowOf one other i] ++ rows.drop p ↔ row ∈ rows ∨ row = rowOf one other i := by
      conv => rhs; rw [← List.take_append_drop p rows]
      simp only [List.mem_append, List.mem_singleton]
      constructor
      · rintro ((h | h) | h)
        · exact .inl (.inl h)
        · exact .inr h
        · exact .inl (.inr h)
      · rintro ((h | h) | h)
        · exact .inl (.inl h)
        · exact .inr h
        · exact .inl (.inr h)
    rw [key, h.mem]
    constructor
    · rintro (⟨n, hn, rfl⟩ | rfl)
      · exact ⟨n, by omega, rfl⟩
      · exact ⟨i, by omega, rfl⟩
    · rintro ⟨n, hn, rfl⟩
      rcases Nat.lt_or_ge n i with q | q
      · exact .inl ⟨n, q, rfl⟩
      · rw [show n = i by omega]; exact .inr rfl
  · have := h.len
    have := hp.1
    simp only [List.length_append, List.length_take, List.length_drop, List.length_singleton]
    omega
end Mine

namespace Mine
structure IsShared (one other g : Int) : Prop where
  pos : 1 ≤ g
  le : g ≤ 9
  d1 : one % g = 0
  d2 : other % g = 0
  max : ∀ d : Int, 1 ≤ d → d ≤ 9 → one % d = 0 → other % d = 0 → d ≤ g
structure Crt (one other g : Int) (W : Nat) : Prop where
  w1 : 1 ≤ W
  w2 : W ≤ 81
  div : (one * other).fdiv g = (W : Int)
  inj : ∀ n m : Nat, n < W → m < W → (n : Int) % one = (m : Int) % one → (n : Int) % other = (m : Int) % other → n = m
  sol : ∀ x y : Int, 0 ≤ x → x < one → 0 ≤ y → y < other → ((x - y) % g = 0 ↔ ∃ n : Nat, n < W ∧ (n : Int) % one = x ∧ (n : Int) % other = y)
  m1 : (W : Int) % one = 0
  m2 : (W : Int) % other = 0

/-- a times u is the gcd, by the rest of b -/
def chkInv (a b : Nat) : Bool := (List.range b).any fun u => (a * u) % b == Nat.gcd a b % b
theorem chkInv_all : ((List.range 9).all fun a => (List.range 9).all fun b => chkInv (a + 1) (b + 1)) = true := by decide +kernel
theorem all_at {f : Nat → Nat → Bool} (h : ((List.range 9).all fun a => (List.range 9).all fun b => f (a + 1) (b + 1)) = true) {a b : Nat} (a1 : 1 ≤ a) (a2 : a ≤ 9) (b1 : 1 ≤ b) (b2 : b ≤ 9) : f a b = true := by
  have z := List.all_eq_true.mp (List.all_eq_true.mp h (a - 1) (List.mem_range.mpr (by omega))) (b - 1) (List.mem_range.mpr (by omega))
  rw [show a - 1 + 1 = a by omega, show b - 1 + 1 = b by omega] at z
  exact z
theorem same_le {a b n m : Nat} (hn : n < Nat.lcm a b) (hle : m ≤ n) (e1 : n % a = m % a) (e2 : n % b = m % b) : n = m := by
  have d1 : a ∣ n - m := Nat.dvd_of_mod_eq_zero (Nat.sub_mod_eq_zero_of_mod_eq e1)
  have d2 : b ∣ n - m := Nat.dvd_of_mod_eq_zero (Nat.sub_mod_eq_zero_of_mod_eq e2)
  have := Nat.eq_zero_of_dvd_of_lt (Nat.lcm_dvd d1 d2) (by omega)
  omega

theorem crt {one other g : Int} (h1 : 1 ≤ one) (h2 : one ≤ 9) (h3 : 1 ≤ other) (h4 : other ≤ 9) (h : IsShared one other g) : ∃ W, Crt one other g W := by
  obtain ⟨a, rfl⟩ := Int.eq_ofNat_of_zero_le (show 0 ≤ one by omega)
  obtain ⟨b, rfl⟩ := Int.eq_ofNat_of_zero_le (show 0 ≤ other by omega)
  have hga : Nat.gcd a b ∣ a := Nat.gcd_dvd_left a b
  have hgb : Nat.gcd a b ∣ b := Nat.gcd_dvd_right a b
  have hgp : 0 < Nat.gcd a b := Nat.gcd_pos_of_pos_left b (by omega)
  have hgl : Nat.gcd a b ≤ a := Nat.le_of_dvd (by omega) hga
  have hg : g = (Nat.gcd a b : Int) := by
    have up : (Nat.gcd a b : Int) ≤ g := h.max _ (by omega) (by omega) (by exact_mod_cast Nat.mod_eq_zero_of_dvd hga) (by exact_mod_cast Nat.mod_eq_zero_of_dvd hgb)
    have hp := h.pos
    obtain ⟨q, rfl⟩ := Int.eq_ofNat_of_zero_le (show 0 ≤ g by omega)
    have d1 : q ∣ a := Nat.dvd_of_mod_eq_zero (by exact_mod_cast h.d1)
    have d2 : q ∣ b := Nat.dvd_of_mod_eq_zero (by exact_mod_cast h.d2)
    have := Nat.le_of_dvd hgp (Nat.dvd_gcd d1 d2)
    omega
  subst hg
  have hgl2 : Nat.gcd a b * Nat.lcm a b = a * b := Nat.gcd_mul_lcm a b
  have hlp : 0 < Nat.lcm a b := Nat.lcm_pos (by omega) (by omega)
  have hl81 : Nat.lcm a b ≤ 81 := by
    have k1 : Nat.lcm a b ≤ a * b := by rw [← hgl2]; exact Nat.le_mul_of_pos_left _ hgp
    have k2 : a * b ≤ 9 * 9 := Nat.mul_le_mul (by omega) (by omega)
    omega
  have hda : a ∣ Nat.lcm a b := Nat.dvd_lcm_left a b
  have hdb : b ∣ Nat.lcm a b := Nat.dvd_lcm_right a b
  have ida : (a : Int) ∣ (Nat.lcm a b : Int) := by exact_mod_cast hda
  have idb : (b : Int) ∣ (Nat.lcm a b : Int) := by exact_mod_cast hdb
  refine ⟨Nat.lcm a b, hlp, hl81, ?_, ?_, ?_, Int.emod_eq_zero_of_dvd ida, Int.emod_eq_zero_of_dvd idb⟩
  · have e : ((a : Int) * (b : Int)) = (Nat.gcd a b : Int) * (Nat.lcm a b : Int) := by exact_mod_cast hgl2.symm
    rw [e, Int.fdiv_eq_ediv_of_nonneg _ (by omega), Int.mul_ediv_cancel_left _ (by omega)]
  · intro n m hn hm e1 e2
    have f1 : n % a = m % a := by exact_mod_cast e1
    have f2 : n % b = m % b := by exact_mod_cast e2
    rcases Nat.le_total m n with q | q
    · exact same_le hn q f1 f2
    · exact (same_le hm q f1.symm f2.symm).symm
  · intro x y hx0 hx hy0 hy
    constructor
    · intro hs
      have c := all_at chkInv_all (a := a) (b := b) (by omega) (by omega) (by omega) (by omega)
      obtain ⟨u, _, hu⟩ := List.any_eq_true.mp c
      have hu := beq_iff_eq.mp hu
      have hu' : ((a : Int) * u - (Nat.gcd a b : Int)) % (b : Int) = 0 := by
        rw [← Int.emod_eq_emod_iff_emod_sub_eq_zero]
        exact_mod_cast hu
      obtain ⟨k, hk⟩ := Int.dvd_of_emod_eq_zero hu'
      obtain ⟨t, ht⟩ := Int.dvd_of_emod_eq_zero hs
      -- the number x - a u t
      have q1 := Int.emod_nonneg (x - (a : Int) * u * t) (show (Nat.lcm a b : Int) ≠ 0 by omega)
      have q2 := Int.emod_lt_of_pos (x - (a : Int) * u * t) (show 0 < (Nat.lcm a b : Int) by omega)
      obtain ⟨n, hn⟩ := Int.eq_ofNat_of_zero_le q1
      refine ⟨n, by omega, ?_, ?_⟩
      · rw [← hn, Int.emod_emod_of_dvd _ ida]
        rw [show x - (a : Int) * u * t = x + (a : Int) * (-(u * t)) by rw [Int.mul_neg, Int.mul_assoc]; omega, Int.add_mul_emod_self_left]
        exact Int.emod_eq_of_lt hx0 hx
      · rw [← hn, Int.emod_emod_of_dvd _ idb]
        have e : x - (a : Int) * u * t = y + (b : Int) * (-(k * t)) := by
          have z1 : (a : Int) * u * t = (Nat.gcd a b : Int) * t + (b : Int) * k * t := by
            rw [← Int.add_mul]
            congr 1
            omega
          rw [z1, Int.mul_neg, Int.mul_assoc]
          omega
        rw [e, Int.add_mul_emod_self_left]
        exact Int.emod_eq_of_lt hy0 hy
    · rintro ⟨n, _, p1, p2⟩
      rw [← Int.emod_eq_emod_iff_emod_sub_eq_zero, ← p1, ← p2]
      have iga : (Nat.gcd a b : Int) ∣ (a : Int) := by exact_mod_cast hga
      have igb : (Nat.gcd a b : Int) ∣ (b : Int) := by exact_mod_cast hgb
      rw [Int.emod_emod_of_dvd _ iga, Int.emod_emod_of_dvd _ igb]
end Mine

namespace Mine
section
variable {prog : Program} {w : World} {A : Around} {E : Value → Shared → Prop} {s : Shared}
/-- the bounds of the cut [:2] of three -/
theorem cut2_bounds {sl : Addr} {u : Tok} {Q : Int × Int × Nat → Shared → Prop} (hs : s.heap.IsSliceOf sl .none (.int 2 u) .none) (h : Q (0, 1, 2) s) :
    wpAny (model prog w) A (Builtin.Slice.sliceApplied (.ref sl) (pure ((3 : Nat) : Int))) Q E s := by
  obtain ⟨os, hos, hcs, hds⟩ := id hs
  unfold Builtin.Slice.sliceApplied Builtin.Slice.sliceFields
  refine wpAny_bind (wpAny_bind (wpAny_field hos hds (x := .none) rfl (wpAny_bind (wpAny_field hos hds (x := .int 2 u) rfl (wpAny_bind (wpAny_field hos hds (x := .none) rfl (wpAny_pure ?_)))))))
  refine wpAny_bind (slicePart_none ?_)
  show wpAny _ _ (if ((1 : Int) == 0) = true then _ else _) _ _ s
  rw [if_neg (by decide)]
  refine wpAny_bind (slicePart_none (wpAny_bind (slicePart_int (wpAny_bind (wpAny_pure ?_)))))
  exact wpAny_pure h

theorem cut2_item {t sl : Addr} {x y z : Value} {u : Tok} {Q : Value → Shared → Prop} (ht : IsTup s.heap t #[x, y, z]) (hs : s.heap.IsSliceOf sl .none (.int 2 u) .none)
    (h : Q (.ref s.heap.objs.size) { s with heap := s.heap.push { cls := .type "tuple", data := .seq #[x, y] } }) : wpAny (model prog w) A (getItem (.ref t) (.ref sl)) Q E s := by
  have hz : sizeOk (.seq #[x, y]) := Nat.le_of_ble_eq_true rfl
  obtain ⟨os, hos, hcs, hds⟩ := id hs
  have hTs : s.TypeIs (.ref sl) "slice" := ⟨os, hos, hcs⟩
  unfold getItem
  try with_reducible refine wpAny_holding ?_
  first | refine wpAny_bind (wpAny_pure ?_) | skip
  refine wpAny_bind (wpAny_sequenceKey ht.typeIs (by decide) ?_)
  refine wpAny_bind (wpAny_callSpecial?_slot (name := Str.ofString "__getitem__") ht.typeIs slot_tuple_getitem
    (wpAny_call_entry slot_tuple_getitem ht.typeIs entry_tuple_getitem ?_ (args_tuple_getitem _ _)))
  show wpAny _ _ (Builtin.Tuple.tupleItemsOf (.ref t) >>= _) _ _ s
  refine wpAny_bind (tupleItemsOf_ ht ?_)
  refine wpAny_bind (wpAny_typeOf hTs ?_)
  rw [if_pos (by decide)]
  refine wpAny_bind (cut2_bounds hs ?_)
  show wpAny _ _ (if ((0 : Int) == 0 && (1 : Int) == 1 && (2 == 3)) = true then _ else _) _ _ s
  rw [if_neg (by decide)]
  first
    | exact wpAny_bind (m := Builtin.Tuple.tupleExact _) (wpAny_newObj_type (wpAny_pure ⟨_, rfl, wpAny_pure h⟩) hz)
    | exact wpAny_bind (m := Builtin.Tuple.tupleExact _) (wpAny_newObj_type (wpAny_bind (wpAny_pure (wpAny_pure ⟨_, rfl, wpAny_pure h⟩))) hz)
    | exact wpAny_bind (wpAny_bind (m := Builtin.Tuple.tupleExact _) (wpAny_newObj_type (wpAny_pure (wpAny_pure ⟨_, rfl, wpAny_pure h⟩)) hz))
    | exact wpAny_bind (wpAny_bind (m := Builtin.Tuple.tupleExact _) (wpAny_newObj_type (wpAny_pure ⟨_, rfl, wpAny_pure h⟩) hz))
end
section
variable {prog : Program} {w : World} {A : Around} {E : Value → Shared → Prop} {s : Shared} {h₀ : Heap} {L : Addr} {m : Str → Option Value} {news : List (Addr × Obj)}
theorem cut2 {value slice : Expr} {t : Addr} {x y z : Value} {u : Tok} {Q : Value → Shared → Prop}
    (F : Fr h₀ L s.heap m) (N : News h₀ L s.heap news) (ht : IsTup s.heap t #[x, y, z])
    (h : ∀ D h', Fr h₀ L h' m → News h₀ L h' ((D, { cls := .type "tuple", data := .seq #[x, y] }) :: news) → (∀ p ∈ news, p.1 < D) → Q (.ref D) { s with heap := h' })
    (hs : subscripted slice false (.ref t) (.ref s.heap.objs.size) = operate [.ref s.heap.objs.size, .ref t] (getItem (.ref t) (.ref s.heap.objs.size)) := by with_unfolding_all rfl)
    (hg : ∀ r, letTemporaryGo value (.ref t) r = pure () := by intro _; with_unfolding_all rfl) :
    wpAny (model prog w) A (subscriptTail value slice (.ref t) (.ref s.heap.objs.size)) Q E { s with heap := s.heap.push { cls := .type "slice", data := .fields #[.none, .int 2 u, .none] } } := by
  have ht' : IsTup (s.heap.push { cls := .type "slice", data := .fields #[.none, .int 2 u, .none] }) t #[x, y, z] := ht.keeps fun _ _ e => Heap.get?_push_of_some _ e
  refine subscriptTail_ops (s := { s with heap := s.heap.push { cls := .type "slice", data := .fields #[.none, .int 2 u, .none] } }) ht'.typeIs slot_tuple_getitem.lookup
    (cut2_item ht' (Heap.IsSliceOf.new ..) ?_) hs hg
  have N1 := News.push (F.push { cls := .type "slice", data := .fields #[.none, .int 2 u, .none] }) (N.grown fun _ _ e => Heap.get?_push_of_some _ e) { cls := .type "tuple", data := .seq #[x, y] }
  rw [Heap.size_push] at N1
  show Q (.ref (s.heap.push _).objs.size) _
  rw [Heap.size_push]
  exact h _ _ ((F.push _).push _) N1 fun p hp => Nat.lt_succ_of_lt (Heap.lt_size (N p hp).1)
end
end Mine

namespace Mine
/-- the scope of the law and the body of its outer loop -/
def lawDef (k : Nat) : Option (Scope × List Stmt) := match PySem.Challenge.pw_zt0003_01.main.body[k]? with
  | some (.FunctionDef _ _ body _ _ _ scope _ _ _) => some (scope, body)
  | _ => none
def lawFor : Option (Scope × List Stmt) := match lawDef 13 with
  | some (scope, (.For _ _ body _ _) :: _) => some (scope, body)
  | _ => none

/-- the scope and the body of the loop at a place in the outer loop's body -/
def lawLoop (k : Nat) : Option (Scope × List Stmt) := match lawFor with
  | some (scope, stmts) => match stmts[k]? with
    | some (.For _ _ body _ _) => some (scope, body)
    | _ => none
  | _ => none
def lawTail (k : Nat) : Option (Scope × List Stmt) := match lawFor with
  | some (scope, stmts) => some (scope, stmts.drop k)
  | _ => none

/-- the items of a list are tuples of ints that stand in the ledger -/
structure RowsIn (w : World) (els : List (Addr × Obj)) (vs : List Value) (rows : List (List Int)) : Prop where
  len : vs.length = rows.length
  row : ∀ (i : Nat) (row : List Int), rows[i]? = some row → ∃ (t : Addr) (o : Obj), vs[i]? = some (Value.ref t) ∧ (t, o) ∈ els ∧ TupKeyObj (intKind PROG w) row o
theorem RowsIn.nil {w : World} {els : List (Addr × Obj)} : RowsIn w els [] [] := ⟨rfl, fun i row h => by simp at h⟩
theorem RowsIn.up {w : World} {els els' : List (Addr × Obj)} {vs : List Value} {rows : List (List Int)} (x : RowsIn w els vs rows) (h : ∀ e ∈ els, e ∈ els') : RowsIn w els' vs rows :=
  ⟨x.len, fun i row e => let ⟨t, _, h1, h2, h3⟩ := x.row i row e; ⟨t, _, h1, h _ h2, h3⟩⟩
theorem tup_at {w : World} {g : Heap} {t : Addr} {o : Obj} {ns : List Int} (h : g.get? t = some o) (x : TupKeyObj (intKind PROG w) ns o) : TupAt PROG w g ns t := by
  obtain ⟨hc, items, n, hd, hi⟩ := x
  exact ⟨o, items, n, h, hc, hd, hi⟩
theorem RowsIn.at {w : World} {els : List (Addr × Obj)} {vs : List Value} {rows : List (List Int)} (x : RowsIn w els vs rows) {g : Heap} (h : ∀ e ∈ els, g.get? e.1 = some e.2) : RowsAt w g vs rows :=
  ⟨x.len, fun i row e => let ⟨t, _, h1, h2, h3⟩ := x.row i row e; ⟨t, h1, tup_at (h _ h2) h3⟩⟩
theorem RowsIn.ins {w : World} {els : List (Addr × Obj)} {vs : List Value} {rows : List (List Int)} (x : RowsIn w els vs rows) {t : Addr} {o : Obj} {row : List Int} (h : TupKeyObj (intKind PROG w) row o) (p : Nat) (hp : p ≤ rows.length) :
    RowsIn w ((t, o) :: els) (vs.take p ++ [Value.ref t] ++ vs.drop p) (rows.take p ++ [row] ++ rows.drop p) := by
  have hl := x.len
  refine ⟨by simp only [List.length_append, List.length_take, List.length_drop, List.length_singleton]; omega, fun i r e => ?_⟩
  rw [List.append_assoc, List.singleton_append, List.getElem?_append] at e ⊢
  rw [List.length_take] at e ⊢
  by_cases hi : i < p
  · rw [if_pos (by omega), List.getElem?_take_of_lt hi] at e ⊢
    obtain ⟨t', o', h1, h2, h3⟩ := x.row i r e
    exact ⟨t', o', h1, .tail _ h2, h3⟩
  · rw [if_neg (by omega)] at e ⊢
    rw [show min p rows.length = p by omega] at e
    rw [show min p vs.length = p by omega]
    rcases Nat.eq_zero_or_pos (i - p) with q | q
    · rw [q] at e ⊢
      rw [List.getElem?_cons_zero] at e ⊢
      cases e
      exact ⟨t, o, rfl, .head _, h⟩
    · obtain ⟨j, hj⟩ : ∃ j, i - p = j + 1 := ⟨i - p - 1, by omega⟩
      rw [hj] at e ⊢
      rw [List.getElem?_cons_succ, List.getElem?_drop] at e ⊢
      obtain ⟨t', o', h1, h2, h3⟩ := x.row _ r e
      exact ⟨t', o', h1, .tail _ h2, h3⟩

theorem tkey2 {w : World} (a b : Int) (t u : Tok) : TupKeyObj (intKind PROG w) [a, b] (tup2 a b t u) :=
  ⟨rfl, _, _, rfl, .cons (intKind_is _ _ _ _) (.cons (intKind_is _ _ _ _) .nil)⟩

theorem off_heads {tl els heads : List (Addr × Obj)} (h1 : OwnOff tl (heads.map (·.1))) (h2 : ∀ q ∈ tl, ∀ r ∈ els, q.1 ≠ r.1) : ∀ q ∈ heads ++ els, ∀ n ∈ tl, q.1 ≠ n.1 := by
  intro q hq n hn
  rcases List.mem_append.mp hq with hq | hq
  · exact fun e => h1 n hn q.1 (List.mem_map_of_mem hq) e.symm
  · exact fun e => h2 n hn q hq e.symm
def cdG (one other : Int) (l : List Int) (k : Int) : List Int := if one.fmod k = 0 ∧ other.fmod k = 0 then l ++ [k] else l
theorem cdG_mem (one other : Int) : ∀ (ks l : List Int) (x : Int), x ∈ ks.foldl (cdG one other) l ↔ x ∈ l ∨ (x ∈ ks ∧ one.fmod x = 0 ∧ other.fmod x = 0)
  | [], l, x => by simp
  | k :: ks, l, x => by
    rw [List.foldl_cons, cdG_mem one other ks]
    unfold cdG
    by_cases h : one.fmod k = 0 ∧ other.fmod k = 0
    · rw [if_pos h, List.mem_append, List.mem_singleton, List.mem_cons]
      constructor
      · rintro ((h' | rfl) | ⟨h1, h2⟩)
        · exact .inl h'
        · exact .inr ⟨.inl rfl, h⟩
        · exact .inr ⟨.inr h1, h2⟩
      · rintro (h' | ⟨h1 | h1, h2⟩)
        · exact .inl (.inl h')
        · exact .inl (.inr h1)
        · exact .inr ⟨h1, h2⟩
    · rw [if_neg h, List.mem_cons]
      constructor
      · rintro (h' | ⟨h1, h2⟩)
        · exact .inl h'
        · exact .inr ⟨.inr h1, h2⟩
      · rintro (h' | ⟨h1 | h1, h2⟩)
        · exact .inl h'
        · exact absurd (h1 ▸ h2) h
        · exact .inr ⟨h1, h2⟩
theorem cd_shared {one other M : Int} (h1 : M ∈ (rangeKs 1 9).foldl (cdG one other) []) (h2 : ∀ a, a ∈ (rangeKs 1 9).foldl (cdG one other) [] → a ≤ M) : IsShared one other M := by
  have up : ∀ d : Int, 1 ≤ d → d ≤ 9 → d ∈ rangeKs 1 9 := fun d a b => by
    have : d = 1 ∨ d = 2 ∨ d = 3 ∨ d = 4 ∨ d = 5 ∨ d = 6 ∨ d = 7 ∨ d = 8 ∨ d = 9 := by omega
    rcases this with rfl | rfl | rfl | rfl | rfl | rfl | rfl | rfl | rfl <;> decide
  have em : ∀ (a d : Int), 1 ≤ d → a.fmod d = a % d := fun a d h => Int.fmod_eq_emod_of_nonneg a (by omega)
  rcases (cdG_mem _ _ _ _ _).mp h1 with h1 | ⟨h1, h3, h4⟩
  · exact nomatch h1
  · obtain ⟨b1, b2⟩ := mem_rangeKs h1
    rw [em _ _ b1] at h3 h4
    refine ⟨b1, by omega, h3, h4, fun d a b c e => h2 d ((cdG_mem _ _ _ _ _).mpr (.inr ⟨up d a b, ?_, ?_⟩))⟩
    · rw [em _ _ a]; exact c
    · rw [em _ _ a]; exact e

theorem tup3 {w : World} {x y z : Int} {o : Obj} (h : TupKeyObj (intKind PROG w) [x, y, z] o) : ∃ t u v, ∀ (g : Heap) (a : Addr), g.get? a = some o → IsTup g a #[.int x t, .int y u, .int z v] := by
  obtain ⟨hc, items, n, hd, hi⟩ := h
  cases hi' : items.toList with
  | nil => rw [hi'] at hi; cases hi
  | cons a l =>
    rw [hi'] at hi
    cases hi with
    | cons ha hi =>
      cases hi with
      | cons hb hi =>
        cases hi with
        | cons hcc hi =>
          cases hi
          obtain ⟨t, rfl⟩ := Value.isInt_shape ha
          obtain ⟨u, rfl⟩ := Value.isInt_shape hb
          obtain ⟨v, rfl⟩ := Value.isInt_shape hcc
          refine ⟨t, u, v, fun g a e => ⟨o, e, hc, n, ?_⟩⟩
          rw [hd]
          congr 1
          rw [← Array.toArray_toList (xs := items), hi']

end Mine

namespace Mine
/-- a dict from tuples of ints to ints, its keys in the ledger -/
def FoundIn (w : World) (fd : Addr) (o : Obj) (els : List (Addr × Obj)) (D : List (List Int × Int)) : Prop :=
  (fd == sysModules) = false ∧ ∃ (es : Array DictEntry) (ep : Nat) (xs : List (List Int × Addr × Value)), o.ExactDict ∧ o.data = .dict es ep ∧ es.toList = xs.map (entryOfKey (tupleKind (intKind PROG w))) ∧ (xs.map (·.1)).Nodup ∧
    (∀ x ∈ xs, ∃ ok, (x.2.1, ok) ∈ els ∧ TupKeyObj (intKind PROG w) x.1 ok) ∧ (∀ x ∈ xs, ∃ n t, x.2.2 = .int n t ∧ (x.1, n) ∈ D) ∧ (∀ k n, (k, n) ∈ D → ∃ x ∈ xs, x.1 = k ∧ ∃ t, x.2.2 = .int n t) ∧ D.length = xs.length

section
variable {w : World} {fd : Addr} {o : Obj} {els els' : List (Addr × Obj)} {D : List (List Int × Int)}
theorem FoundIn.ofEmpty {K' : Type} [DecidableEq K'] {knd' : KeyKind PROG w K'} (lo : (fd == sysModules) = false) (hd : o.IsDictOf knd' []) : FoundIn w fd o els [] := by
  obtain ⟨es, ep, hc, hdat, _, hp, _⟩ := hd
  have he : es.toList = [] := List.length_eq_zero_iff.mp hp.length
  exact ⟨lo, es, ep, [], hc, hdat, he, List.nodup_nil, fun _ hx => by simp at hx, fun _ hx => by simp at hx, fun _ _ hx => by simp at hx, rfl⟩
theorem FoundIn.up (T : FoundIn w fd o els D) (h : ∀ e ∈ els, e ∈ els') : FoundIn w fd o els' D := by
  obtain ⟨lo, es, ep, xs, hc, hdat, he, hn, hk, r⟩ := T
  exact ⟨lo, es, ep, xs, hc, hdat, he, hn, fun x hx => let ⟨ok, a, b⟩ := hk x hx; ⟨ok, h _ a, b⟩, r⟩

theorem atKey_none {xs : List (List Int × Addr × Value)} {k : List Int} (h : ∀ x ∈ xs, x.1 ≠ k) : atKey xs k = none := by
  unfold atKey
  rw [Option.map_eq_none_iff, List.find?_eq_none]
  intro x hx
  simpa using h x hx
theorem atKey_some : ∀ {xs : List (List Int × Addr × Value)}, (xs.map (·.1)).Nodup → ∀ {x}, x ∈ xs → atKey xs x.1 = some x.2
  | [], _, _, h => nomatch h
  | y :: ys, hn, x, h => by
    rw [List.map_cons, List.nodup_cons] at hn
    unfold atKey
    by_cases e : y.1 = x.1
    · rw [List.find?_cons_of_pos (by simpa using e)]
      rcases List.mem_cons.mp h with rfl | h
      · rfl
      · exact absurd (e ▸ List.mem_map_of_mem h) hn.1
    · rw [List.find?_cons_of_neg (by simpa using e)]
      rcases List.mem_cons.mp h with rfl | h
      · exact absurd rfl e
      · exact atKey_some hn.2 h

variable {A : Around} {E : Value → Shared → Prop} {s : Shared} {h₀ : Heap} {L a : Addr} {m : Str → Option Value} {ok : Obj} {ks : List Int} {n : Int}
theorem get_found {value slice : Expr} {Q : Value → Shared → Prop} (hu : A.units + 1 < cLine) (T : FoundIn w fd o els D) (hm : s.heap.get? fd = some o) (hels : ∀ e ∈ els, s.heap.get? e.1 = some e.2)
    (hka : s.heap.get? a = some ok) (tk : TupKeyObj (intKind PROG w) ks ok) (hD : (ks, n) ∈ D) (h : ∀ t, Q (.int n t) { s with toks := s.toks + (ks.length + 1) })
    (hs : subscripted slice false (.ref fd) (.ref a) = operate [.ref fd, .ref a] (getItem (.ref fd) (.ref a)) := by with_unfolding_all rfl) (hg : ∀ r, letTemporaryGo value (.ref fd) r = pure () := by intro _; with_unfolding_all rfl) :
    wpAny (model PROG w) A (subscriptTail value slice (.ref fd) (.ref a)) Q E s := by
  obtain ⟨lo, es, ep, xs, hc, hdat, he, hn, hk, _, hd2, _⟩ := T
  have hd : s.heap.DictOfH (tupleKind (intKind PROG w)) fd xs := ⟨o, es, ep, hm, hc, hdat, he, fun x hx => let ⟨_, hmk, t⟩ := hk x hx; t.key (hels _ hmk), hn⟩
  obtain ⟨x, hx, e, t, hv⟩ := hd2 ks n hD
  have hp := atKey_some hn hx
  rw [e] at hp
  have q := h t
  rw [← hv] at q
  exact subscriptTail_builtin hd.typeIs slot_dict_getitem.lookup (wpAny_getItem_heap (knd := tupleKind (intKind PROG w)) (tupleKind_room_in1 hu) (tk.key hka) hd hp q) hs hg

theorem set_found {own more : List (Addr × Obj)} {t : Tok} {Q : Unit → Shared → Prop} (hu : A.units + 1 < cLine) (F : Fr h₀ L s.heap m) (N : News h₀ L s.heap (own ++ (fd, o) :: more)) (h1 : ∀ p ∈ own, p.1 ≠ fd) (h2 : ∀ p ∈ more, p.1 ≠ fd)
    (T : FoundIn w fd o els D) (hels : ∀ e ∈ els, e ∈ own ++ (fd, o) :: more) (hka : (a, ok) ∈ els) (tk : TupKeyObj (intKind PROG w) ks ok) (hnew : ∀ n, (ks, n) ∉ D) (hsz : D.length ≤ 1000)
    (h : ∀ h' o', Fr h₀ L h' m → News h₀ L h' (own ++ (fd, o') :: more) → FoundIn w fd o' els (D ++ [(ks, n)]) → Q () { s with heap := h', toks := s.toks + (ks.length + 1) }) :
    wpAny (model PROG w) A (setItem (.ref fd) (.ref a) (.int n t)) Q E s := by
  obtain ⟨lo, es, ep, xs, hc, hdat, he, hn, hk, hd1, hd2, hlen⟩ := T
  have hm : (fd, o) ∈ own ++ (fd, o) :: more := List.mem_append_right _ (.head _)
  have hd : s.heap.DictOfH (tupleKind (intKind PROG w)) fd xs := ⟨o, es, ep, N.get hm, hc, hdat, he, fun x hx => let ⟨_, hmk, t⟩ := hk x hx; t.key (N.get (hels _ hmk)), hn⟩
  have hxs : xs.length ≤ sizeLine := by rw [sizeLine_eq]; omega
  have hno : atKey xs ks = none := atKey_none fun x hx e => by
    obtain ⟨n', _, _, hmem⟩ := hd1 x hx
    exact hnew n' (e ▸ hmem)
  refine wpAny_setItem_heap (hsz := hxs) (knd := tupleKind (intKind PROG w)) (tupleKind_room_in1 hu) (tk.key (N.get (hels _ hka))) hd fun h' hm' hs => ?_
  rw [storedH_new hno] at hm'
  obtain ⟨o', es', ep', ho', hc', hd', he', _, hn'⟩ := hm'
  refine h h' o' (F.change hs (N _ hm).2.1 (N.fresh hm)) (N.setAt h1 h2 hs ho') ⟨lo, es', ep', xs ++ [(ks, a, .int n t)], hc', hd', he', hn', ?_, ?_, ?_, ?_⟩
  · intro x hx
    rcases List.mem_append.mp hx with hx | hx
    · exact hk x hx
    · rw [List.mem_singleton.mp hx]; exact ⟨ok, hka, tk⟩
  · intro x hx
    rcases List.mem_append.mp hx with hx | hx
    · obtain ⟨n', t', e, hmem⟩ := hd1 x hx
      exact ⟨n', t', e, List.mem_append_left _ hmem⟩
    · rw [List.mem_singleton.mp hx]; exact ⟨n, t, rfl, List.mem_append_right _ (.head _)⟩
  · intro k n' hmem
    rcases List.mem_append.mp hmem with hmem | hmem
    · obtain ⟨x, hx, r⟩ := hd2 k n' hmem
      exact ⟨x, List.mem_append_left _ hx, r⟩
    · obtain ⟨rfl, rfl⟩ := Prod.mk.inj (List.mem_singleton.mp hmem)
      exact ⟨_, List.mem_append_right _ (.head _), rfl, t, rfl⟩
  · rw [List.length_append, List.length_append, hlen]; rfl

theorem len_found {Q : Value → Shared → Prop} (T : FoundIn w fd o els D) (hm : s.heap.get? fd = some o) (hfit : D.length ≤ 1000)
    (h : Q (.int D.length (s.toks + 1)) { s with toks := s.toks + 1 + 1 }) : wpAny (model PROG w) A (call (.builtin "len") [.ref fd]) Q E s := by
  obtain ⟨lo, es, ep, xs, hc, hdat, he, hn, hk, _, _, hlen⟩ := T
  have hT : s.TypeIs (.ref fd) "dict" := ⟨o, hm, hc.1⟩
  have hes : es.size = D.length := by rw [hlen, ← Array.length_toList, he, List.length_map]
  have meet : MeetsIn PROG w (Builtin.«dict.__len__» ⟨[.ref fd], []⟩) (fun _ R s' => s'.heap.get? fd = some o ∧ R (.ok (.ret (.int D.length s'.toks))) { s' with toks := s'.toks + 1 }) :=
    .of_wp fun A R s' ⟨hm', h'⟩ => by
      show wpAny _ _ (dictSize fd >>= _) _ _ s'
      unfold dictSize
      refine wpAny_bind (wpAny_bind (wpAny_dictEntries hm' hdat (wpAny_pure ?_)))
      show wpAny _ _ (Builtin.Dict.pendingCount fd >>= _) _ _ s'
      refine wpAny_bind (wpAny_pendingCount_other lo ?_)
      refine wpAny_ret_mkInt ?_
      rw [Nat.add_zero, hes]; exact h'
  refine Calls.call_function_entry kind_len plain_len entry_len (args_len1 _) ?_
  unfold Builtin.«len»
  refine wpAny_bind (m := oneArg "len" _) (wpAny_pure ?_)
  refine wpAny_bind (m := callSpecial? (.ref fd) (Str.ofString "__len__")) (wpAny_callSpecial?_slot (name := Str.ofString "__len__") hT F.slot_dict_len
    (call_meetsIn F.slot_dict_len hT F.entry_dict_len (F.args_dict_len_1 _) meet ⟨hm, ?_⟩))
  show wpAny _ _ _ _ _ { s with toks := s.toks + 1 }
  refine wpAny_bind (wpAny_holding (wpAny_pure ?_))
  refine wpAny_bind (wpAny_letGo ?_)
  show wpAny _ _ (if ((D.length : Nat) : Int) < 0 then _ else _) _ _ _
  rw [if_neg (by omega)]
  show wpAny _ _ (if ((D.length : Nat) : Int) ≥ 2 ^ 63 then _ else _) _ _ _
  rw [if_neg (by omega)]
  exact wpAny_bind (wpAny_mkInt (wpAny_pure ⟨_, rfl, h⟩))
end
end Mine

namespace Mine
section
variable {w : World} {p : Program} {loose : List Str} {mean : ExcName → Option Value} {mg mb : Str → Option Value}
local macro_rules | `(tactic| walk_at "call ref") => `(tactic| refine Stop.go ?_)
local macro_rules | `(tactic| walk_at "binaryOp Add ref ref") => `(tactic| refine Stop.go ?_)
local macro_rules | `(tactic| walk_at "eval Name") => `(tactic| (refine' nameX_L ?k1 ?k2 ?_; (case k1 => k_asm); (case k2 => first | exact rfl | assumption | with_unfolding_all assumption); k_whole))

/-- the invariant of the loop that sorts in -/
def J4 (w : World) (L ol : Addr) (o1 o2 o3 : Obj) (one other : Int) (rest : List (Addr × Obj)) (m₀ : Str → Option Value) (I : Addr) (i : Nat) (m : Str → Option Value) (news : List (Addr × Obj)) : Prop :=
  ∃ tl els vs ep rows, news = (L + 1 + 1 + 1, o3) :: (L + 1 + 1, o2) :: (L + 1, o1) :: (ol, listOf (List.toArray vs) ep) :: (tl ++ els) ∧ Tabs tl ∧ (∀ e ∈ rest, e ∈ els) ∧ OwnOff (tl ++ els) [I, L + 1 + 1 + 1, L + 1 + 1, L + 1, ol] ∧
    (∀ q ∈ tl, ∀ r ∈ els, q.1 ≠ r.1) ∧ RowsIn w els vs rows ∧ RowsOf one other i rows ∧ ∀ y, y ≠ Str.ofString "number" → m y = m₀ y

theorem turn4 {scope : Scope} {body : List Stmt} (hlaw : lawLoop 3 = some (scope, body)) {base h₀ h : Heap} {L fa ol I : Addr} {cd : Value} {m m₀ : Str → Option Value} {s : Shared} {tk : Nat}
    {Q : Flow → Shared → Prop} {o1 o2 o3 it : Obj} {t1 t2 t : Tok} {one other : Int} {i : Nat} {news rest : List (Addr × Obj)}
    (B : Below callerA base [] h₀) (X : (hd.heap_39 w.params).In h₀) (T : Top p loose mean mg mb h₀) (C1 : CodeHd h₀ 41 37) (C2 : CodeHd h₀ 34 30)
    (d1 : o1.data = .cell (some (.int one t1))) (d2 : o2.data = .cell (some (.int other t2))) (ho1 : 1 ≤ one ∧ one ≤ 9) (ho2 : 1 ≤ other ∧ other ≤ 9) (hi : i < 81)
    (hLc : L ≠ ol ∧ @Ne Nat (L + 1) ol ∧ @Ne Nat (L + 1 + 1) ol ∧ @Ne Nat (L + 1 + 1 + 1) ol)
    (e1 : m₀ (Str.ofString "order") = some (.ref ol)) (hj : J4 w L ol o1 o2 o3 one other rest m₀ I i m news) (hoI : ∀ p ∈ news, p.1 ≠ I)
    (F : Fr h₀ L h (fun y => if y = Str.ofString "number" then some (.int (0 + (i : Int)) t) else m y)) (N : News h₀ L h ((I, it) :: news)) :
    wpAny (model PROG w) (callerA.deeper (envOfC (Str.ofString "law") scope L fa cd)) (execs body (envOfC (Str.ofString "law") scope L fa cd))
      (UnrPost h₀ L { s with heap := h, toks := tk } I it (J4 w L ol o1 o2 o3 one other rest m₀ I (i + 1)) Q) (fun _ _ => False) { s with heap := h, toks := tk } := by
  with_unfolding_all injection hlaw with hlaw
  with_unfolding_all injection hlaw with hl1 hl2
  subst hl1 hl2
  revert X
  unfold PROG
  w_top off
  k_fill
  intro X
  obtain ⟨tl, els, vs, ep, rows, rfl, ht, hsub, hoff, htr, hrows, hro, hm⟩ := hj
  rw [Int.zero_add] at F
  have e1' : m (Str.ofString "order") = some (.ref ol) := (hm _ (by decide)).trans e1
  (try k_fold)
  k_steps
  refine Stop.mk ?_
  have hofft : OwnOff tl [I, L + 1 + 1 + 1, L + 1 + 1, L + 1, ol] := fun q hq => hoff q (List.mem_append_left _ hq)
  have hoffe : OwnOff els [I, L + 1 + 1 + 1, L + 1 + 1, L + 1, ol] := fun q hq => hoff q (List.mem_append_right _ hq)
  refine' Spec.use (rest := (I, it) :: (L + 1 + 1 + 1, o3) :: (L + 1 + 1, o2) :: (L + 1, o1) :: (ol, listOf vs.toArray ep) :: els) (rests (by omega) (by omega) ho1.1 ho1.2 ho2.1 ho2.2 ht) rfl B F rfl rfl X T C1 C2 N ?sub ?subr ?off (fun _ _ _ => trivial) (by decide) (by decide) ?_
  case sub => exact fun q hq => .tail _ (.tail _ (.tail _ (.tail _ (.tail _ (List.mem_append_left _ hq)))))
  case subr => exact (((((List.sublist_append_right tl els).cons_cons _).cons_cons _).cons_cons _).cons_cons _).cons_cons _ |>.subset
  case off => exact off_heads (heads := [(I, it), (L + 1 + 1 + 1, o3), (L + 1 + 1, o2), (L + 1, o1), (ol, listOf vs.toArray ep)]) hofft htr
  rintro v nd h2 tk2 F2 N2 off2 ⟨t9, u1, u2, tl2, rfl, rfl, ht2⟩
  simp only [List.cons_append] at N2
  have N3 : News h₀ L h2 ((t9, tup2 ((i : Int) % one) ((i : Int) % other) u1 u2) :: (I, it) :: (L + 1 + 1 + 1, o3) :: (L + 1 + 1, o2) :: (L + 1, o1) :: (ol, listOf vs.toArray ep) :: (tl2 ++ els)) := by
    refine cb_drop N2 ?_
    intro q hq
    simp only [List.mem_cons, List.mem_append] at hq ⊢
    rcases hq with h | h | h | h | h | h | h | h <;> simp only [h, true_or, or_true]
  have hoff2 : OwnOff tl2 [I, L + 1 + 1 + 1, L + 1 + 1, L + 1, ol] := by
    intro q hq x hx
    simp only [List.mem_cons, List.not_mem_nil, or_false] at hx
    have := fun r hr => off2 q (.tail _ hq) r hr
    simp only [List.forall_mem_cons] at this
    rcases hx with rfl | rfl | rfl | rfl | rfl
    · exact this.1
    · exact this.2.1
    · exact this.2.2.1
    · exact this.2.2.2.1
    · exact this.2.2.2.2.1
  have htr2 : ∀ q ∈ tl2, ∀ r ∈ els, q.1 ≠ r.1 := fun q hq r hr => off2 q (.tail _ hq) r (.tail _ (.tail _ (.tail _ (.tail _ (.tail _ hr)))))
  clear N2 off2 F N
  try dsimp only
  try k_fold
  k_steps
  rename News _ _ _ _ => N4
  rename Fr _ _ _ _ => F4
  rename _ ∧ _ => l4
  refine Stop.mk ?_
  refine' kde_addT (its := #[.int ((i : Int) % one) u1, .int ((i : Int) % other) u2]) (its2 := #[.int (i : Int) t]) F4 N4 ⟨_, N4.get (.tail _ (.head _)), rfl, _, rfl⟩ ⟨_, N4.get (.head _), rfl, _, rfl⟩ (List.cons_ne_nil _ _) (List.cons_ne_nil _ _) (Nat.le_of_ble_eq_true rfl) rfl ?_
  intro D5 h5 F5 N5 l5
  obtain ⟨row, hrow⟩ : ∃ o : Obj, o = { cls := .type "tuple", data := .seq (Array.toList #[Value.int ((i : Int) % one) u1, .int ((i : Int) % other) u2] ++ Array.toList #[Value.int (i : Int) t]).toArray } := ⟨_, rfl⟩
  rw [← hrow] at N5
  have hkey : TupKeyObj (intKind PROG w) (rowOf one other i) row := by
    subst hrow
    exact ⟨rfl, _, _, rfl, .cons (intKind_is _ _ _ _) (.cons (intKind_is _ _ _ _) (.cons (intKind_is _ _ _ _) .nil))⟩
  have hD5 : ∀ q ∈ tl2 ++ els, q.1 < D5 := fun q hq => l5 q (.tail _ (.tail _ (.tail _ (.tail _ (.tail _ (.tail _ (.tail _ hq)))))))
  simp only [List.forall_mem_cons] at l5
  obtain ⟨-, -, l5I, l53, l52, l51, l5o, -⟩ := l5
  have N6 : News h₀ L h5 ((I, it) :: (L + 1 + 1 + 1, o3) :: (L + 1 + 1, o2) :: (L + 1, o1) :: (ol, listOf vs.toArray ep) :: (tl2 ++ (D5, row) :: els)) := by
    refine cb_drop N5 ?_
    intro q hq
    simp only [List.mem_cons, List.mem_append] at hq ⊢
    rcases hq with h | h | h | h | h | h | h | h <;> simp only [h, true_or, or_true]
  clear N5 N4 F4 l4 hrow
  try dsimp only
  try k_fold
  k_steps
  refine Stop.mk ?_
  refine' Spec.use (rest := (I, it) :: (L + 1 + 1 + 1, o3) :: (L + 1 + 1, o2) :: (L + 1, o1) :: (tl2 ++ (D5, row) :: els)) (ins (vs := vs) (ep := ep) (rows := rows) (x := rowOf one other i) (fun r hr => (hro.dims r hr).trans rfl) (by have := hro.len; omega) (fun a b => hro.ord.mono _ a b)) rfl B F5 rfl rfl X T C1 C2 N6 ?sub ?subr ?off ?hG (by decide) (by decide) ?_
  case sub => exact fun q hq => by rw [List.mem_singleton.mp hq]; exact .tail _ (.tail _ (.tail _ (.tail _ (.head _))))
  case subr => exact ((((List.sublist_cons_self _ (tl2 ++ (D5, row) :: els)).cons_cons _).cons_cons _).cons_cons _).cons_cons _ |>.subset
  case off =>
    intro q hq n hn
    rw [List.mem_singleton.mp hn]
    simp only [List.mem_cons, List.mem_append] at hq
    rcases hq with rfl | rfl | rfl | rfl | h | rfl | h
    · exact fun e => hoI _ (.tail _ (.tail _ (.tail _ (.head _)))) e.symm
    · exact hLc.2.2.2
    · exact hLc.2.2.1
    · exact hLc.2.1
    · exact hoff2 q h _ (.tail _ (.tail _ (.tail _ (.tail _ (.head _)))))
    · exact fun e => Nat.ne_of_lt l5o e.symm
    · exact hoffe q h _ (.tail _ (.tail _ (.tail _ (.tail _ (.head _)))))
  case hG =>
    intro g sg hr
    refine ⟨hrows.at fun e he => hr e (.tail _ (.tail _ (.tail _ (.tail _ (List.mem_append_right _ (.tail _ he)))))), tup_at (hr (D5, row) (.tail _ (.tail _ (.tail _ (.tail _ (List.mem_append_right _ (.head _))))))) hkey⟩
  rintro v nd h7 tk7 F7 N7 off7 ⟨rfl, p9, ep9, rfl, hp9⟩
  rw [List.singleton_append] at N7
  try dsimp only
  try k_fold
  k_steps
  refine turn_end ((L + 1 + 1 + 1, o3) :: (L + 1 + 1, o2) :: (L + 1, o1) :: (ol, listOf (List.toArray (vs.take p9 ++ [Value.ref D5] ++ vs.drop p9)) ep9) :: (tl2 ++ (D5, row) :: els)) F7 N7 ?_ ?_ ?_
  · intro q hq
    simp only [List.mem_cons, List.mem_append] at hq ⊢
    rcases hq with h | h | h | h | h | h | h | h <;> simp only [h, true_or, or_true]
  · intro q hq
    simp only [List.mem_cons, List.mem_append] at hq
    rcases hq with rfl | rfl | rfl | rfl | h | rfl | h
    · exact hoI _ (.head _)
    · exact hoI _ (.tail _ (.head _))
    · exact hoI _ (.tail _ (.tail _ (.head _)))
    · exact hoI (ol, listOf vs.toArray ep) (.tail _ (.tail _ (.tail _ (.head _))))
    · exact hoff2 q h _ (.head _)
    · exact fun e => Nat.ne_of_lt l5I e.symm
    · exact hoffe q h _ (.head _)
  · refine ⟨tl2, (D5, row) :: els, _, ep9, _, rfl, ht2, fun e he => .tail _ (hsub e he), ?_, ?_, hrows.ins hkey p9 hp9.1, hro.step hp9, ?_⟩
    · intro q hq x hx
      simp only [List.mem_append, List.mem_cons] at hq
      rcases hq with h | rfl | h
      · exact hoff2 q h x hx
      · simp only [List.mem_cons, List.not_mem_nil, or_false] at hx
        rcases hx with rfl | rfl | rfl | rfl | rfl
        · exact fun e => Nat.ne_of_lt l5I e.symm
        · exact fun e => Nat.ne_of_lt l53 e.symm
        · exact fun e => Nat.ne_of_lt l52 e.symm
        · exact fun e => Nat.ne_of_lt l51 e.symm
        · exact fun e => Nat.ne_of_lt l5o e.symm
      · exact hoffe q h x hx
    · intro q hq r hr
      rcases List.mem_cons.mp hr with rfl | hr
      · exact Nat.ne_of_lt (hD5 q (List.mem_append_left _ hq))
      · exact htr2 q hq r hr
    · intro y hy
      dsimp only
      rw [if_neg hy]
      exact hm y hy
end
end Mine

namespace Mine
/-- the inner loop's body of the double loop -/
def lawInner (k : Nat) : Option (Scope × List Stmt) := match lawLoop k with
  | some (scope, (.For _ _ body _ _) :: _) => some (scope, body)
  | _ => none

/-- what the dict holds before the pair (i, j) -/
structure DInv (one other g : Int) (W : Nat) (i j : Nat) (D : List (List Int × Int)) : Prop where
  mem : ∀ k n, (k, n) ∈ D ↔ ∃ n₀ : Nat, n₀ < W ∧ n = (n₀ : Int) ∧ k = [(n₀ : Int) % one, (n₀ : Int) % other] ∧ ((n₀ : Int) % one < (i : Int) ∨ ((n₀ : Int) % one = (i : Int) ∧ (n₀ : Int) % other < (j : Int)))
  len : D.length ≤ 9 * i + j
  full : g = 1 → (D.length : Int) = (i : Int) * other + (j : Int)

theorem DInv.yes {one other g : Int} {W i j n1 : Nat} {D : List (List Int × Int)} (h : DInv one other g W i j D) (hC : Crt one other g W) (hn : n1 < W) (ha : (n1 : Int) % one = (i : Int)) (hb : (n1 : Int) % other = (j : Int)) :
    DInv one other g W i (j + 1) (D ++ [([(i : Int), (j : Int)], (n1 : Int))]) := by
  refine ⟨fun k n => ?_, ?_, fun hg => ?_⟩
  · rw [List.mem_append, List.mem_singleton, h.mem]
    constructor
    · rintro (⟨n₀, h1, h2, h3, h4⟩ | e)
      · exact ⟨n₀, h1, h2, h3, by omega⟩
      · obtain ⟨rfl, rfl⟩ := Prod.mk.inj e
        exact ⟨n1, hn, rfl, by rw [ha, hb], by omega⟩
    · rintro ⟨n₀, h1, h2, h3, h4⟩
      by_cases e : (n₀ : Int) % one = (i : Int) ∧ (n₀ : Int) % other = (j : Int)
      · have := hC.inj n₀ n1 h1 hn (e.1.trans ha.symm) (e.2.trans hb.symm)
        subst this
        exact .inr (by rw [h2, h3, e.1, e.2])
      · exact .inl ⟨n₀, h1, h2, h3, by omega⟩
  · have := h.len
    rw [List.length_append, List.length_singleton]; omega
  · have := h.full hg
    rw [List.length_append, List.length_singleton]; omega
theorem DInv.no {one other g : Int} {W i j : Nat} {D : List (List Int × Int)} (h : DInv one other g W i j D) (hno : ¬ ∃ n : Nat, n < W ∧ (n : Int) % one = (i : Int) ∧ (n : Int) % other = (j : Int)) (hg1 : g ≠ 1) :
    DInv one other g W i (j + 1) D := by
  refine ⟨fun k n => ?_, by have := h.len; omega, fun hg => absurd hg hg1⟩
  rw [h.mem]
  constructor
  · rintro ⟨n₀, h1, h2, h3, h4⟩
    exact ⟨n₀, h1, h2, h3, by omega⟩
  · rintro ⟨n₀, h1, h2, h3, h4⟩
    refine ⟨n₀, h1, h2, h3, ?_⟩
    have : ¬ ((n₀ : Int) % one = (i : Int) ∧ (n₀ : Int) % other = (j : Int)) := fun e => hno ⟨n₀, h1, e⟩
    omega
theorem DInv.row {one other g : Int} {W i j : Nat} {D : List (List Int × Int)} (h : DInv one other g W i j D) (ho : 1 ≤ other) (hj : (j : Int) = other) (hj9 : j ≤ 9) : DInv one other g W (i + 1) 0 D := by
  refine ⟨fun k n => ?_, by have := h.len; omega, fun hg => ?_⟩
  · rw [h.mem]
    constructor
    · rintro ⟨n₀, h1, h2, h3, h4⟩
      exact ⟨n₀, h1, h2, h3, by omega⟩
    · rintro ⟨n₀, h1, h2, h3, h4⟩
      refine ⟨n₀, h1, h2, h3, ?_⟩
      have a1 := Int.emod_nonneg (n₀ : Int) (show other ≠ 0 by omega)
      have a2 := Int.emod_lt_of_pos (n₀ : Int) (show 0 < other by omega)
      omega
  · have := h.full hg
    rw [this, hj]
    push_cast
    rw [Int.add_mul]
    omega
/-- the invariant of the inner loop -/
def J8 (w : World) (L fd : Addr) (o1 o2 o3 : Obj) (one other g : Int) (W : Nat) (tl rest : List (Addr × Obj)) (m₀ : Str → Option Value) (I1 : Addr) (it1 : Obj) (i : Nat) (I : Addr) (j : Nat) (m : Str → Option Value) (news : List (Addr × Obj)) : Prop :=
  ∃ fo rest' D, news = (I1, it1) :: (L + 1 + 1 + 1, o3) :: (L + 1 + 1, o2) :: (L + 1, o1) :: (fd, fo) :: (tl ++ rest') ∧ (∀ e ∈ rest, e ∈ rest') ∧ OwnOff (tl ++ rest') [I, I1, L + 1 + 1 + 1, L + 1 + 1, L + 1, fd] ∧
    (∀ q ∈ tl, ∀ r ∈ rest', q.1 ≠ r.1) ∧ FoundIn w fd fo rest' D ∧ DInv one other g W i j D ∧ ∀ y, y ≠ Str.ofString "b" → y ≠ Str.ofString "place" → y ≠ Str.ofString "there" → m y = m₀ y

theorem place_yes {prs : List (List Int)} (ho : Ordered prs) {x : List Int} (hx : x ∈ prs) {p : Nat} (hp : IsPlace (fun j => lexLt (prs.getD j []) x) prs.length p) : p < prs.length ∧ prs[p]? = some x := by
  obtain ⟨q, hq, rfl⟩ := List.getElem_of_mem hx
  obtain ⟨h1, h2, h3⟩ := hp
  have gd : prs.getD q [] = prs[q] := by rw [List.getD_eq_getElem?_getD, List.getElem?_eq_getElem hq]; rfl
  have hle : p ≤ q := by
    rcases Nat.lt_or_ge q p with h | h
    · have := h2 q h
      dsimp only at this
      rw [gd, lexLt_irrefl] at this
      cases this
    · exact h
  have : p = q := by
    rcases Nat.lt_or_ge p q with h | h
    · have a := h3 p (Nat.le_refl _) (by omega)
      have b := ho.at h hq
      rw [gd] at b
      dsimp only at a
      rw [b] at a
      cases a
    · omega
  subst this
  exact ⟨hq, List.getElem?_eq_getElem hq⟩

section
variable {w : World} {p : Program} {loose : List Str} {mean : ExcName → Option Value} {mg mb : Str → Option Value}
local macro_rules | `(tactic| walk_at "call ref") => `(tactic| refine Stop.go ?_)
local macro_rules | `(tactic| walk_at "subscriptTail") => `(tactic| refine Stop.go ?_)
local macro_rules | `(tactic| walk_at "compareOp Eq ref ref") => `(tactic| refine Stop.go ?_)
local macro_rules | `(tactic| walk_at "call builtin:len") => `(tactic| refine Stop.go ?_)
local macro_rules | `(tactic| walk_at "setItem ref ref") => `(tactic| refine Stop.go ?_)
local macro_rules | `(tactic| walk_at "eval Name") => `(tactic| (refine' nameX_L ?k1 ?k2 ?_; (case k1 => k_asm); (case k2 => first | exact rfl | assumption | with_unfolding_all assumption); k_whole))

theorem turn8 {scope : Scope} {body : List Stmt} (hlaw : lawInner 7 = some (scope, body)) {base h₀ h : Heap} {L fa ol pl fd I1 I : Addr} {cd : Value} {m m₀ : Str → Option Value} {s : Shared} {tk : Nat}
    {Q : Flow → Shared → Prop} {o1 o2 o3 it1 it : Obj} {t1 t2 t tg ta : Tok} {one other g : Int} {W i j : Nat} {news tl rest : List (Addr × Obj)} {vs pvs : List Value} {ep pep : Nat} {rows : List (List Int)}
    (B : Below callerA base [] h₀) (X : (hd.heap_39 w.params).In h₀) (T : Top p loose mean mg mb h₀) (C1 : CodeHd h₀ 41 37) (C2 : CodeHd h₀ 34 30)
    (d1 : o1.data = .cell (some (.int one t1))) (d2 : o2.data = .cell (some (.int other t2))) (d3 : o3.data = .cell (some (.ref pl))) (ho1 : 1 ≤ one ∧ one ≤ 9) (ho2 : 1 ≤ other ∧ other ≤ 9) (hi : (i : Int) < one) (hj : (j : Int) < other) (hg : 1 ≤ g ∧ g ≤ 9)
    (hC : Crt one other g W) (hord : (ol, listOf vs.toArray ep) ∈ rest) (hpl : (pl, listOf pvs.toArray pep) ∈ rest) (hrows : RowsIn w rest vs rows) (hprows : RowsIn w rest pvs (rows.map (List.take 2))) (hro : RowsOf one other W rows) (hpo : Ordered (rows.map (List.take 2)))
    (hLc : @Ne Nat (L + 1) fd ∧ @Ne Nat (L + 1 + 1) fd ∧ @Ne Nat (L + 1 + 1 + 1) fd ∧ @Ne Nat I1 fd)
    (e1 : m₀ (Str.ofString "order") = some (.ref ol)) (e2 : m₀ (Str.ofString "shared") = some (.int g tg)) (e3 : m₀ (Str.ofString "found") = some (.ref fd)) (e4 : m₀ (Str.ofString "a") = some (.int (i : Int) ta))
    (hJ : J8 w L fd o1 o2 o3 one other g W tl rest m₀ I1 it1 i I j m news) (hoI : ∀ p ∈ news, p.1 ≠ I)
    (F : Fr h₀ L h (fun y => if y = Str.ofString "b" then some (.int (0 + (j : Int)) t) else m y)) (N : News h₀ L h ((I, it) :: news)) :
    wpAny (model PROG w) (callerA.deeper (envOfC (Str.ofString "law") scope L fa cd)) (execs body (envOfC (Str.ofString "law") scope L fa cd))
      (UnrPost h₀ L { s with heap := h, toks := tk } I it (J8 w L fd o1 o2 o3 one other g W tl rest m₀ I1 it1 i I (j + 1)) Q) (fun _ _ => False) { s with heap := h, toks := tk } := by
  with_unfolding_all injection hlaw with hlaw
  with_unfolding_all injection hlaw with hl1 hl2
  subst hl1 hl2
  revert X
  unfold PROG
  w_top off
  k_fill
  intro X
  obtain ⟨fo, rest', D, rfl, hsub, hoff, htr, hT, hD, hm⟩ := hJ
  rw [Int.zero_add] at F
  have e1' : m (Str.ofString "order") = some (.ref ol) := (hm _ (by decide) (by decide) (by decide)).trans e1
  have e2' : m (Str.ofString "shared") = some (.int g tg) := (hm _ (by decide) (by decide) (by decide)).trans e2
  have e3' : m (Str.ofString "found") = some (.ref fd) := (hm _ (by decide) (by decide) (by decide)).trans e3
  have e4' : m (Str.ofString "a") = some (.int (i : Int) ta) := (hm _ (by decide) (by decide) (by decide)).trans e4
  have hlen : (rows.map (List.take 2)).length = W := by rw [List.length_map, hro.len]
  have hW81 := hC.w2
  have hd2 : ∀ r ∈ rows.map (List.take 2), r.length = 2 := by
    intro r hr
    obtain ⟨r', hr', rfl⟩ := List.mem_map.mp hr
    rw [List.length_take, hro.dims r' hr']
    rfl
  have hpsz : pvs.toArray.size = W := by rw [List.size_toArray, hprows.len, hlen]
  (try k_fold)
  k_steps
  rename News _ _ _ _ => N1
  rename Fr _ _ _ _ => F1
  rename _ ∧ _ => l1
  rename Addr => D1
  have hup : ∀ q ∈ rest', q ∈ (D1, tup2 (i : Int) (j : Int) ta t) :: (I, it) :: (I1, it1) :: (L + 1 + 1 + 1, o3) :: (L + 1 + 1, o2) :: (L + 1, o1) :: (fd, fo) :: (tl ++ rest') := fun q hq => .tail _ (.tail _ (.tail _ (.tail _ (.tail _ (.tail _ (.tail _ (List.mem_append_right _ hq)))))))
  refine Stop.mk ?_
  refine' Spec.use (rest := (D1, tup2 (i : Int) (j : Int) ta t) :: (I, it) :: (I1, it1) :: (L + 1 + 1 + 1, o3) :: (L + 1 + 1, o2) :: (L + 1, o1) :: (fd, fo) :: (tl ++ rest')) (bis (ex := []) (vs := pvs) (rows := rows.map (List.take 2)) (x := [(i : Int), (j : Int)]) (.inl rfl) (fun r hr => (hd2 r hr).trans rfl) (by omega) (fun a b => hpo.mono _ a b)) rfl B F1 rfl rfl X T C1 C2 N1 (fun q hq => (nomatch hq)) (fun q hq => hq) (fun q hq n hn => (nomatch hn)) ?hG (by decide) (by decide) ?_
  case hG =>
    intro g' sg hr
    exact ⟨⟨_, hr _ (hup _ (hsub _ hpl)), rfl, pep, rfl⟩, hprows.at fun e he => hr e (hup _ (hsub _ he)), tup_at (hr _ (.head _)) (tkey2 _ _ _ _)⟩
  rintro v nd h2 tk2 F2 N2 off2 ⟨rfl, p9, tp9, rfl, hp9⟩
  rw [List.nil_append] at N2
  have hp9' := hp9.1
  have hpi : IsPlace (fun q => lexLt ((rows.map (List.take 2)).getD q []) [(i : Int), (j : Int)]) (rows.map (List.take 2)).length p9 := hp9
  by_cases hs : ((i : Int) - (j : Int)) % g = 0
  · have hmod : (true != (((i : Int) - (j : Int)).fmod g == 0)) = false := by rw [Int.fmod_eq_emod_of_nonneg _ (by omega), hs]; rfl
    obtain ⟨n0, hn0, ha0, hb0⟩ := (hC.sol i j (by omega) hi (by omega) hj).mp hs
    have hx : [(i : Int), (j : Int)] ∈ rows.map (List.take 2) := by
      rw [← ha0, ← hb0]
      exact List.mem_map_of_mem ((hro.mem _).mpr ⟨n0, hn0, rfl⟩)
    obtain ⟨hpW, hpx⟩ := place_yes hpo hx hpi
    obtain ⟨tq, oq, hq1, hq2, hq3⟩ := hprows.row p9 _ hpx
    rw [List.getElem?_map, Option.map_eq_some_iff] at hpx
    obtain ⟨row, hrow, hrow2⟩ := hpx
    obtain ⟨n1, hn1, rfl⟩ := (hro.mem row).mp (List.mem_of_getElem? hrow)
    have hn1a : (n1 : Int) % one = (i : Int) ∧ (n1 : Int) % other = (j : Int) := by
      unfold rowOf at hrow2
      simp only [List.take_succ_cons, List.take_zero, List.cons.injEq, and_true] at hrow2
      exact hrow2
    obtain ⟨tr, ob, hr1, hr2, hr3⟩ := hrows.row p9 _ hrow
    obtain ⟨q1, q2, q3, hq⟩ := tup3 hr3
    rw [hlen] at hpW
    have hdec : decide ((p9 : Int) < (W : Int)) = true := decide_eq_true (by omega)
    try dsimp only
    try k_fold
    k_steps
    rename News _ _ _ _ => N3
    rename Fr _ _ _ _ => F3
    refine Stop.mk ?_
    refine' len_is ⟨_, N3.get (hup _ (hsub _ hpl)), rfl, pep, rfl⟩ hpsz (by omega) ?_
    k_steps
    refine Stop.mk ?_
    refine' item_list (x := .ref tq) ⟨_, N3.get (hup _ (hsub _ hpl)), rfl, pep, rfl⟩ (by omega) (by omega) ?hx ?_
    case hx =>
      rw [Int.toNat_natCast]
      simpa using hq1
    k_steps
    rename News _ _ _ _ => N4
    rename Fr _ _ _ _ => F4
    rename _ ∧ _ => l4
    rename Addr => D4
    refine Stop.mk ?_
    refine' eq_tup ?hu (tup_at (N4.get (.tail _ (hup _ (hsub _ hq2)))) hq3) (tup_at (N4.get (.head _)) (tkey2 (i : Int) (j : Int) ta t)) ?_
    case hu => simp only [units_deeper, units_caller]; decide
    rw [decide_eq_true rfl]
    have hg0 : g ≠ 0 := by omega
    k_steps
    rename News _ _ _ _ => N5
    rename Fr _ _ _ _ => F5
    refine Stop.mk ?_
    refine' item_list (x := .ref tr) ⟨_, N5.get (.tail _ (hup _ (hsub _ hord))), rfl, ep, rfl⟩ (by omega) (by omega) ?hx ?_
    case hx =>
      rw [Int.toNat_natCast]
      simpa using hr1
    k_steps
    refine Stop.mk ?_
    refine' item_tupleT (l := [.int ((n1 : Int) % one) q1, .int ((n1 : Int) % other) q2, .int (n1 : Int) q3]) (j := 2) (x := .int (n1 : Int) q3) (hq _ _ (N5.get (.tail _ (hup _ (hsub _ hr2))))) (by omega) (by omega) rfl rfl ?_
    k_steps
    rename News _ _ _ _ => N6
    rename Fr _ _ _ _ => F6
    rename _ ∧ _ => l6
    rename Addr => D6
    have hnew : ∀ n, ([(i : Int), (j : Int)], n) ∉ D := by
      intro n hn
      obtain ⟨n2, _, _, hk2, hlt2⟩ := (hD.mem _ _).mp hn
      simp only [List.cons.injEq, and_true] at hk2
      omega
    have hDl : D.length ≤ 1000 := by have := hD.len; omega
    obtain ⟨l6a, l6b, l6I, l61, l63, l62, l6o, l6f, l6r⟩ := l6
    obtain ⟨l4a, l4I, l41, l43, l42, l4o, l4f, l4r⟩ := l4
    obtain ⟨l1I, l11, l13, l12, l1o, l1f, l1r⟩ := l1
    refine Stop.mk ?_
    refine' set_found (fd := fd) (o := fo) (els := (D6, tup2 (i : Int) (j : Int) ta t) :: rest') (D := D)
      (own := [(D6, tup2 (i : Int) (j : Int) ta t), (D4, tup2 (i : Int) (j : Int) ta t), (D1, tup2 (i : Int) (j : Int) ta t), (I, it), (I1, it1), (L + 1 + 1 + 1, o3), (L + 1 + 1, o2), (L + 1, o1)]) (more := tl ++ rest')
      ?hu F6 N6 ?h1 ?h2 (hT.up fun e he => .tail _ he) ?hels (.head _) (tkey2 _ _ _ _) hnew hDl ?_
    case hu => simp only [units_deeper, units_caller]; decide
    case h1 =>
      intro q hq
      simp only [List.mem_cons, List.not_mem_nil, or_false] at hq
      rcases hq with rfl | rfl | rfl | rfl | rfl | rfl | rfl | rfl
      · exact fun e => Nat.ne_of_lt l6f e.symm
      · exact fun e => Nat.ne_of_lt l4f e.symm
      · exact fun e => Nat.ne_of_lt l1f e.symm
      · exact fun e => hoI (fd, fo) (.tail _ (.tail _ (.tail _ (.tail _ (.head _))))) e.symm
      · exact hLc.2.2.2
      · exact hLc.2.2.1
      · exact hLc.2.1
      · exact hLc.1
    case h2 => exact fun q hq => hoff q hq _ (.tail _ (.tail _ (.tail _ (.tail _ (.tail _ (.head _))))))
    case hels =>
      intro q hq
      simp only [List.mem_cons, List.mem_append, List.not_mem_nil, or_false] at hq ⊢
      rcases hq with h | h <;> simp only [h, true_or, or_true]
    intro h7 fo7 F7 N7 T7
    k_steps
    have lt6 := ktn_ltOf l6r
    have hfoI := hoI (fd, fo) (.tail _ (.tail _ (.tail _ (.tail _ (.head _)))))
    refine turn_end ((I1, it1) :: (L + 1 + 1 + 1, o3) :: (L + 1 + 1, o2) :: (L + 1, o1) :: (fd, fo7) :: (tl ++ (D6, tup2 (i : Int) (j : Int) ta t) :: rest')) F7 N7 ?_ ?_ ?_
    · intro q hq
      simp only [List.mem_cons, List.mem_append, List.not_mem_nil, or_false] at hq ⊢
      rcases hq with h | h | h | h | h | h | h | h | h <;> simp only [h, true_or, or_true]
    · intro q hq
      simp only [List.mem_cons, List.mem_append] at hq
      rcases hq with rfl | rfl | rfl | rfl | rfl | h | rfl | h
      · exact hoI _ (.head _)
      · exact hoI _ (.tail _ (.head _))
      · exact hoI _ (.tail _ (.tail _ (.head _)))
      · exact hoI _ (.tail _ (.tail _ (.tail _ (.head _))))
      · exact hfoI
      · exact hoff q (List.mem_append_left _ h) _ (.head _)
      · exact fun e => Nat.ne_of_lt l6I e.symm
      · exact hoff q (List.mem_append_right _ h) _ (.head _)
    · refine ⟨fo7, _, _, rfl, fun e he => .tail _ (hsub e he), ?_, ?_, T7, hD.yes hC hn1 hn1a.1 hn1a.2, ?_⟩
      · intro q hq x hx
        simp only [List.mem_append, List.mem_cons] at hq
        rcases hq with h | rfl | h
        · exact hoff q (List.mem_append_left _ h) x hx
        · simp only [List.mem_cons, List.not_mem_nil, or_false] at hx
          rcases hx with rfl | rfl | rfl | rfl | rfl | rfl
          · exact fun e => Nat.ne_of_lt l6I e.symm
          · exact fun e => Nat.ne_of_lt l61 e.symm
          · exact fun e => Nat.ne_of_lt l63 e.symm
          · exact fun e => Nat.ne_of_lt l62 e.symm
          · exact fun e => Nat.ne_of_lt l6o e.symm
          · exact fun e => Nat.ne_of_lt l6f e.symm
        · exact hoff q (List.mem_append_right _ h) x hx
      · intro q hq r hr
        rcases List.mem_cons.mp hr with rfl | hr
        · exact Nat.ne_of_lt (lt6 q (List.mem_append_left _ hq))
        · exact htr q hq r hr
      · intro y hy1 hy2 hy3
        dsimp only
        rw [if_neg hy3, if_neg hy2, if_neg hy1]
        exact hm y hy1 hy2 hy3
  have hno : ¬ ∃ n : Nat, n < W ∧ (n : Int) % one = (i : Int) ∧ (n : Int) % other = (j : Int) := fun h => hs ((hC.sol i j (by omega) hi (by omega) hj).mpr h)
  have hg1 : g ≠ 1 := fun e => hs (by rw [e]; exact Int.emod_one _)
  have hg0 : g ≠ 0 := by omega
  have hmod : (false != (((i : Int) - (j : Int)).fmod g == 0)) = false := by
    rw [Int.fmod_eq_emod_of_nonneg _ (by omega), beq_eq_false_iff_ne.mpr hs]; rfl
  rw [hlen] at hp9'
  rcases Nat.lt_or_ge p9 W with hpW | hpW
  · have hdec : decide ((p9 : Int) < (W : Int)) = true := decide_eq_true (by omega)
    have hpl9 : p9 < (rows.map (List.take 2)).length := by omega
    obtain ⟨tq, oq, hq1, hq2, hq3⟩ := hprows.row p9 _ (List.getElem?_eq_getElem hpl9)
    have hne : (rows.map (List.take 2))[p9] ≠ [(i : Int), (j : Int)] := by
      intro e
      have hmem := List.getElem_mem hpl9
      rw [e] at hmem
      obtain ⟨r', hr', e'⟩ := List.mem_map.mp hmem
      obtain ⟨n1, hn1, rfl⟩ := (hro.mem r').mp hr'
      unfold rowOf at e'
      simp only [List.take_succ_cons, List.take_zero, List.cons.injEq, and_true] at e'
      exact hno ⟨n1, hn1, e'⟩
    try dsimp only
    try k_fold
    k_steps
    rename News _ _ _ _ => N3
    rename Fr _ _ _ _ => F3
    refine Stop.mk ?_
    refine' len_is ⟨_, N3.get (hup _ (hsub _ hpl)), rfl, pep, rfl⟩ hpsz (by omega) ?_
    k_steps
    refine Stop.mk ?_
    refine' item_list (x := .ref tq) ⟨_, N3.get (hup _ (hsub _ hpl)), rfl, pep, rfl⟩ (by omega) (by omega) ?hx ?_
    case hx =>
      rw [Int.toNat_natCast]
      simpa using hq1
    k_steps
    rename News _ _ _ _ => N4
    rename Fr _ _ _ _ => F4
    rename _ ∧ _ => l4
    rename Addr => D4
    refine Stop.mk ?_
    refine' eq_tup ?hu (tup_at (N4.get (.tail _ (hup _ (hsub _ hq2)))) hq3) (tup_at (N4.get (.head _)) (tkey2 (i : Int) (j : Int) ta t)) ?_
    case hu => simp only [units_deeper, units_caller]; decide
    rw [decide_eq_false hne]
    k_steps
    rename News _ _ _ _ => N5'
    rename Fr _ _ _ _ => F5
    have N5 := cb_drop N5' (fun q hq => List.mem_cons_of_mem _ hq)
    refine turn_end ((I1, it1) :: (L + 1 + 1 + 1, o3) :: (L + 1 + 1, o2) :: (L + 1, o1) :: (fd, fo) :: (tl ++ rest')) F5 N5 ?_ ?_ ?_
    · intro q hq
      simp only [List.mem_cons, List.mem_append] at hq ⊢
      rcases hq with h | h | h | h | h | h | h | h <;> simp only [h, true_or, or_true]
    · exact fun q hq => hoI q hq
    · refine ⟨fo, rest', D, rfl, hsub, hoff, htr, hT, hD.no hno hg1, ?_⟩
      intro y hy1 hy2 hy3
      dsimp only
      rw [if_neg hy3, if_neg hy2, if_neg hy1]
      exact hm y hy1 hy2 hy3
  · have hdec : decide ((p9 : Int) < (W : Int)) = false := decide_eq_false (by omega)
    have hmod' : (decide ((p9 : Int) < (W : Int)) != (((i : Int) - (j : Int)).fmod g == 0)) = false := by rw [hdec]; exact hmod
    try dsimp only
    try k_fold
    k_steps
    rename News _ _ _ _ => N3
    rename Fr _ _ _ _ => F3
    refine Stop.mk ?_
    refine' len_is ⟨_, N3.get (hup _ (hsub _ hpl)), rfl, pep, rfl⟩ hpsz (by omega) ?_
    k_steps
    rename News _ _ _ _ => N5
    rename Fr _ _ _ _ => F5
    refine turn_end ((I1, it1) :: (L + 1 + 1 + 1, o3) :: (L + 1 + 1, o2) :: (L + 1, o1) :: (fd, fo) :: (tl ++ rest')) F5 N5 ?_ ?_ ?_
    · intro q hq
      simp only [List.mem_cons, List.mem_append] at hq ⊢
      rcases hq with h | h | h | h | h | h | h | h <;> simp only [h, true_or, or_true]
    · exact fun q hq => hoI q hq
    · refine ⟨fo, rest', D, rfl, hsub, hoff, htr, hT, hD.no hno hg1, ?_⟩
      intro y hy1 hy2 hy3
      dsimp only
      rw [if_neg hy3, if_neg hy2, if_neg hy1]
      exact hm y hy1 hy2 hy3
end
end Mine

namespace Mine
/-- the invariant of the outer loop over pairs -/
def J7 (w : World) (L fd : Addr) (o1 o2 o3 : Obj) (one other g : Int) (W : Nat) (tl rest : List (Addr × Obj)) (m₀ : Str → Option Value) (I : Addr) (i : Nat) (m : Str → Option Value) (news : List (Addr × Obj)) : Prop :=
  ∃ fo rest' D, news = (L + 1 + 1 + 1, o3) :: (L + 1 + 1, o2) :: (L + 1, o1) :: (fd, fo) :: (tl ++ rest') ∧ (∀ e ∈ rest, e ∈ rest') ∧ OwnOff (tl ++ rest') [I, L + 1 + 1 + 1, L + 1 + 1, L + 1, fd] ∧
    (∀ q ∈ tl, ∀ r ∈ rest', q.1 ≠ r.1) ∧ FoundIn w fd fo rest' D ∧ DInv one other g W i 0 D ∧ ∀ y, y ≠ Str.ofString "a" → y ≠ Str.ofString "b" → y ≠ Str.ofString "place" → y ≠ Str.ofString "there" → m y = m₀ y

section
variable {w : World} {p : Program} {loose : List Str} {mean : ExcName → Option Value} {mg mb : Str → Option Value}
local macro_rules | `(tactic| walk_at "call ref") => `(tactic| refine Stop.go ?_)
local macro_rules | `(tactic| walk_at "pyIter ref") => `(tactic| refine Stop.go ?_)
local macro_rules | `(tactic| walk_at "exec For Name Call cons nil") => `(tactic| (k_here; (rename Fr _ _ _ _ => lF'); (with_unfolding_all refine' For_invVF lF' ?k1 ?k2 ?_; (case k1 => exact rfl); (case k2 => exact rfl); k_whole)))
local macro_rules | `(tactic| walk_at "eval Name") => `(tactic| (refine' nameX_L ?k1 ?k2 ?_; (case k1 => k_asm); (case k2 => first | exact rfl | assumption | with_unfolding_all assumption); k_whole))

theorem turn7 {scope : Scope} {body : List Stmt} (hlaw : lawLoop 7 = some (scope, body)) {base h₀ h : Heap} {L fa ol pl fd I : Addr} {cd : Value} {m m₀ : Str → Option Value} {s : Shared} {tk : Nat}
    {Q : Flow → Shared → Prop} {o1 o2 o3 it : Obj} {t1 t2 t tg : Tok} {one other g : Int} {W i : Nat} {news tl rest : List (Addr × Obj)} {vs pvs : List Value} {ep pep : Nat} {rows : List (List Int)}
    (B : Below callerA base [] h₀) (X : (hd.heap_39 w.params).In h₀) (T : Top p loose mean mg mb h₀) (C1 : CodeHd h₀ 41 37) (C2 : CodeHd h₀ 34 30)
    (d1 : o1.data = .cell (some (.int one t1))) (d2 : o2.data = .cell (some (.int other t2))) (d3 : o3.data = .cell (some (.ref pl))) (ho1 : 1 ≤ one ∧ one ≤ 9) (ho2 : 1 ≤ other ∧ other ≤ 9) (hi : (i : Int) < one) (hg : 1 ≤ g ∧ g ≤ 9)
    (hC : Crt one other g W) (hord : (ol, listOf vs.toArray ep) ∈ rest) (hpl : (pl, listOf pvs.toArray pep) ∈ rest) (hrows : RowsIn w rest vs rows) (hprows : RowsIn w rest pvs (rows.map (List.take 2))) (hro : RowsOf one other W rows) (hpo : Ordered (rows.map (List.take 2)))
    (hLc : @Ne Nat (L + 1) fd ∧ @Ne Nat (L + 1 + 1) fd ∧ @Ne Nat (L + 1 + 1 + 1) fd)
    (e1 : m₀ (Str.ofString "order") = some (.ref ol)) (e2 : m₀ (Str.ofString "shared") = some (.int g tg)) (e3 : m₀ (Str.ofString "found") = some (.ref fd))
    (hJ : J7 w L fd o1 o2 o3 one other g W tl rest m₀ I i m news) (hoI : ∀ p ∈ news, p.1 ≠ I)
    (F : Fr h₀ L h (fun y => if y = Str.ofString "a" then some (.int (0 + (i : Int)) t) else m y)) (N : News h₀ L h ((I, it) :: news)) :
    wpAny (model PROG w) (callerA.deeper (envOfC (Str.ofString "law") scope L fa cd)) (execs body (envOfC (Str.ofString "law") scope L fa cd))
      (UnrPost h₀ L { s with heap := h, toks := tk } I it (J7 w L fd o1 o2 o3 one other g W tl rest m₀ I (i + 1)) Q) (fun _ _ => False) { s with heap := h, toks := tk } := by
  with_unfolding_all injection hlaw with hlaw
  with_unfolding_all injection hlaw with hl1 hl2
  subst hl1 hl2
  revert X
  unfold PROG
  w_top off
  k_fill
  intro X
  obtain ⟨fo, rest', D, rfl, hsub, hoff, htr, hT, hD, hm⟩ := hJ
  rw [Int.zero_add] at F
  have hfoI := hoI (fd, fo) (.tail _ (.tail _ (.tail _ (.head _))))
  (try k_fold)
  k_steps
  rename IsRange _ _ _ _ _ _ _ _ => hR
  rename Fr _ _ _ _ => F1
  rename News _ _ _ _ => N1
  refine Stop.mk ?_
  refine' range_loop (n := other.toNat) (fun I2 j m news => J8 w L fd o1 o2 o3 one other g W tl rest (fun y => if y = Str.ofString "a" then some (.int (i : Int) t) else m₀ y) I it i I2 j m news) rfl hR (small_one (by omega) (by omega) (by omega) (by omega)) ?hn F1 N1 ?hj ?step ?done
  case hn => rw [rangeSize_nat, Int.sub_zero]
  case hj =>
    intro I2 lt2
    refine ⟨fo, rest', D, rfl, hsub, ?_, htr, hT, hD, ?_⟩
    · intro q hq x hx
      rcases List.mem_cons.mp hx with rfl | hx
      · exact Nat.ne_of_lt (lt2 q (.tail _ (.tail _ (.tail _ (.tail _ (.tail _ hq))))))
      · exact hoff q hq x hx
    · intro y hy1 hy2 hy3
      dsimp only
      by_cases ha : y = Str.ofString "a"
      · rw [if_pos ha, if_pos ha]
      · rw [if_neg ha, if_neg ha]; exact hm y ha hy1 hy2 hy3
  case step =>
    intro I2 j t2' m2 news2 h2 tk2 hj hJ2 hoI2 F2 N2
    have a1 : (fun y => if y = Str.ofString "a" then some (Value.int (i : Int) t) else m₀ y) (Str.ofString "order") = some (.ref ol) := (if_neg (by decide)).trans e1
    have a2 : (fun y => if y = Str.ofString "a" then some (Value.int (i : Int) t) else m₀ y) (Str.ofString "shared") = some (.int g tg) := (if_neg (by decide)).trans e2
    have a3 : (fun y => if y = Str.ofString "a" then some (Value.int (i : Int) t) else m₀ y) (Str.ofString "found") = some (.ref fd) := (if_neg (by decide)).trans e3
    have a4 : (fun y => if y = Str.ofString "a" then some (Value.int (i : Int) t) else m₀ y) (Str.ofString "a") = some (.int (i : Int) t) := if_pos rfl
    exact turn8 (by with_unfolding_all rfl) B X T C1 C2 d1 d2 d3 ho1 ho2 hi (by omega) hg hC hord hpl hrows hprows hro hpo ⟨hLc.1, hLc.2.1, hLc.2.2, fun e => hfoI e.symm⟩
      a1 a2 a3 a4 hJ2 hoI2 F2 N2
  case done =>
    intro I2 m2 news2 h2 tk2 hJ2 F2 N2
    obtain ⟨fo2, rest2, D2, rfl, hsub2, hoff2, htr2, hT2, hD2, hm2⟩ := hJ2
    k_steps
    refine turn_end ((L + 1 + 1 + 1, o3) :: (L + 1 + 1, o2) :: (L + 1, o1) :: (fd, fo2) :: (tl ++ rest2)) F2 N2 (fun q hq => hq) ?_ ?_
    · intro q hq
      simp only [List.mem_cons] at hq
      rcases hq with rfl | rfl | rfl | rfl | h
      · exact hoI _ (.head _)
      · exact hoI _ (.tail _ (.head _))
      · exact hoI _ (.tail _ (.tail _ (.head _)))
      · exact hfoI
      · exact hoff2 q h _ (.tail _ (.head _))
    · refine ⟨fo2, rest2, D2, rfl, hsub2, fun q hq x hx => hoff2 q hq x (.tail _ hx), htr2, hT2, hD2.row ho2.1 (by omega) (by omega), ?_⟩
      intro y hy1 hy2 hy3 hy4
      rw [hm2 y hy2 hy3 hy4]
      exact if_neg hy1
end
end Mine

namespace Mine
/-- the dict answers every number by its rest -/
def Answers (one other : Int) (W : Nat) (D : List (List Int × Int)) : Prop := ∀ x : Int, ([x % one, x % other], x % (W : Int)) ∈ D
theorem answers {one other g : Int} {W : Nat} {D : List (List Int × Int)} (h1 : 1 ≤ one) (hC : Crt one other g W) (h : DInv one other g W one.toNat 0 D) : Answers one other W D := by
  intro x
  have hW := hC.w1
  have a1 := Int.emod_nonneg x (show (W : Int) ≠ 0 by omega)
  have a2 := Int.emod_lt_of_pos x (show 0 < (W : Int) by omega)
  obtain ⟨n, hn⟩ := Int.eq_ofNat_of_zero_le a1
  refine (h.mem _ _).mpr ⟨n, by omega, hn, ?_, .inl ?_⟩
  · rw [← hn, Int.emod_emod_of_dvd _ (Int.dvd_of_emod_eq_zero hC.m1), Int.emod_emod_of_dvd _ (Int.dvd_of_emod_eq_zero hC.m2)]
  · have := Int.emod_lt_of_pos (n : Int) (show 0 < one by omega)
    omega

def J9 (L fd : Addr) (o1 o2 o3 fo : Obj) (rest : List (Addr × Obj)) (m₀ : Str → Option Value) (I : Addr) (_ : Nat) (m : Str → Option Value) (news : List (Addr × Obj)) : Prop :=
  ∃ tl, news = (L + 1 + 1 + 1, o3) :: (L + 1 + 1, o2) :: (L + 1, o1) :: (fd, fo) :: (tl ++ rest) ∧ Tabs tl ∧ OwnOff tl [I, L + 1 + 1 + 1, L + 1 + 1, L + 1, fd] ∧ OwnOff rest [I, L + 1 + 1 + 1, L + 1 + 1, L + 1, fd] ∧
    (∀ q ∈ tl, ∀ r ∈ rest, q.1 ≠ r.1) ∧ ∀ y, y ≠ Str.ofString "number" → m y = m₀ y

section
variable {w : World} {p : Program} {loose : List Str} {mean : ExcName → Option Value} {mg mb : Str → Option Value}
local macro_rules | `(tactic| walk_at "call ref") => `(tactic| refine Stop.go ?_)
local macro_rules | `(tactic| walk_at "subscriptTail") => `(tactic| refine Stop.go ?_)
local macro_rules | `(tactic| walk_at "eval Name") => `(tactic| (refine' nameX_L ?k1 ?k2 ?_; (case k1 => k_asm); (case k2 => first | exact rfl | assumption | with_unfolding_all assumption); k_whole))

theorem turn9 {scope : Scope} {body : List Stmt} (hlaw : lawLoop 8 = some (scope, body)) {base h₀ h : Heap} {L fa fd I : Addr} {cd : Value} {m m₀ : Str → Option Value} {s : Shared} {tk : Nat}
    {Q : Flow → Shared → Prop} {o1 o2 o3 fo it : Obj} {t1 t2 t tW : Tok} {one other a₀ : Int} {W i : Nat} {news rest : List (Addr × Obj)} {D : List (List Int × Int)}
    (B : Below callerA base [] h₀) (X : (hd.heap_39 w.params).In h₀) (T : Top p loose mean mg mb h₀) (C1 : CodeHd h₀ 41 37) (C2 : CodeHd h₀ 34 30)
    (d1 : o1.data = .cell (some (.int one t1))) (d2 : o2.data = .cell (some (.int other t2))) (ho1 : 1 ≤ one ∧ one ≤ 9) (ho2 : 1 ≤ other ∧ other ≤ 9) (hW : 1 ≤ W) (hx : -1000 ≤ a₀ + (i : Int) ∧ a₀ + (i : Int) ≤ 1000)
    (hT : FoundIn w fd fo rest D) (hA : Answers one other W D)
    (e1 : m₀ (Str.ofString "found") = some (.ref fd)) (e2 : m₀ (Str.ofString "whole") = some (.int (W : Int) tW))
    (hJ : J9 L fd o1 o2 o3 fo rest m₀ I i m news) (hoI : ∀ p ∈ news, p.1 ≠ I)
    (F : Fr h₀ L h (fun y => if y = Str.ofString "number" then some (.int (a₀ + (i : Int)) t) else m y)) (N : News h₀ L h ((I, it) :: news)) :
    wpAny (model PROG w) (callerA.deeper (envOfC (Str.ofString "law") scope L fa cd)) (execs body (envOfC (Str.ofString "law") scope L fa cd))
      (UnrPost h₀ L { s with heap := h, toks := tk } I it (J9 L fd o1 o2 o3 fo rest m₀ I (i + 1)) Q) (fun _ _ => False) { s with heap := h, toks := tk } := by
  with_unfolding_all injection hlaw with hlaw
  with_unfolding_all injection hlaw with hl1 hl2
  subst hl1 hl2
  revert X
  unfold PROG
  w_top off
  k_fill
  intro X
  obtain ⟨tl, rfl, ht, hofft, hoffe, htr, hm⟩ := hJ
  have e1' : m (Str.ofString "found") = some (.ref fd) := (hm _ (by decide)).trans e1
  have e2' : m (Str.ofString "whole") = some (.int (W : Int) tW) := (hm _ (by decide)).trans e2
  generalize a₀ + (i : Int) = x at F hx
  (try k_fold)
  k_steps
  refine Stop.mk ?_
  refine' Spec.use (rest := (I, it) :: (L + 1 + 1 + 1, o3) :: (L + 1 + 1, o2) :: (L + 1, o1) :: (fd, fo) :: rest) (rests (by omega) (by omega) ho1.1 ho1.2 ho2.1 ho2.2 ht) rfl B F rfl rfl X T C1 C2 N ?sub ?subr ?off (fun _ _ _ => trivial) (by decide) (by decide) ?_
  case sub => exact fun q hq => .tail _ (.tail _ (.tail _ (.tail _ (.tail _ (List.mem_append_left _ hq)))))
  case subr => exact (((((List.sublist_append_right tl rest).cons_cons _).cons_cons _).cons_cons _).cons_cons _).cons_cons _ |>.subset
  case off => exact off_heads (heads := [(I, it), (L + 1 + 1 + 1, o3), (L + 1 + 1, o2), (L + 1, o1), (fd, fo)]) hofft htr
  rintro v nd h2 tk2 F2 N2 off2 ⟨t9, u1, u2, tl2, rfl, rfl, ht2⟩
  simp only [List.cons_append] at N2
  have N3 : News h₀ L h2 ((t9, tup2 (x % one) (x % other) u1 u2) :: (I, it) :: (L + 1 + 1 + 1, o3) :: (L + 1 + 1, o2) :: (L + 1, o1) :: (fd, fo) :: (tl2 ++ rest)) := by
    refine cb_drop N2 ?_
    intro q hq
    simp only [List.mem_cons, List.mem_append] at hq ⊢
    rcases hq with h | h | h | h | h | h | h | h <;> simp only [h, true_or, or_true]
  have hoff2 : OwnOff tl2 [I, L + 1 + 1 + 1, L + 1 + 1, L + 1, fd] := by
    intro q hq x hx
    simp only [List.mem_cons, List.not_mem_nil, or_false] at hx
    have := fun r hr => off2 q (.tail _ hq) r hr
    simp only [List.forall_mem_cons] at this
    rcases hx with rfl | rfl | rfl | rfl | rfl
    · exact this.1
    · exact this.2.1
    · exact this.2.2.1
    · exact this.2.2.2.1
    · exact this.2.2.2.2.1
  have htr2 : ∀ q ∈ tl2, ∀ r ∈ rest, q.1 ≠ r.1 := fun q hq r hr => off2 q (.tail _ hq) r (.tail _ (.tail _ (.tail _ (.tail _ (.tail _ hr)))))
  clear N2 off2 F N
  have hW0 : (W : Int) ≠ 0 := by omega
  have hne : (x % (W : Int) != x.fmod (W : Int)) = false := by rw [Int.fmod_eq_emod_of_nonneg _ (by omega)]; simp
  try dsimp only
  try k_fold
  k_steps
  refine Stop.mk ?_
  refine' get_found (fd := fd) (o := fo) (els := rest) (ok := tup2 (x % one) (x % other) u1 u2) ?hu hT (N3.get (.tail _ (.tail _ (.tail _ (.tail _ (.tail _ (.head _))))))) ?hels (N3.get (.head _)) (tkey2 _ _ _ _) (hA x) ?_
  case hu => simp only [units_deeper, units_caller]; decide
  case hels => exact fun e he => N3.get (.tail _ (.tail _ (.tail _ (.tail _ (.tail _ (.tail _ (List.mem_append_right _ he)))))))
  intro t8
  k_steps
  refine turn_end ((L + 1 + 1 + 1, o3) :: (L + 1 + 1, o2) :: (L + 1, o1) :: (fd, fo) :: (tl2 ++ rest)) F2 N3 (fun q hq => .tail _ hq) ?_ ?_
  · intro q hq
    simp only [List.mem_cons, List.mem_append] at hq
    rcases hq with rfl | rfl | rfl | rfl | h | h
    · exact hoI _ (.head _)
    · exact hoI _ (.tail _ (.head _))
    · exact hoI _ (.tail _ (.tail _ (.head _)))
    · exact hoI _ (.tail _ (.tail _ (.tail _ (.head _))))
    · exact hoff2 q h _ (.head _)
    · exact hoffe q h _ (.head _)
  · refine ⟨tl2, rfl, ht2, hoff2, hoffe, htr2, fun y hy => ?_⟩
    exact (if_neg hy).trans (hm y hy)
end
end Mine

namespace Mine
section
variable {w : World} {p : Program} {loose : List Str} {mean : ExcName → Option Value} {mg mb : Str → Option Value}
local macro_rules | `(tactic| walk_at "call ref") => `(tactic| refine Stop.go ?_)
local macro_rules | `(tactic| walk_at "pyIter ref") => `(tactic| refine Stop.go ?_)
local macro_rules | `(tactic| walk_at "subscriptTail Name Tuple ref ref") => `(tactic| refine Stop.go ?_)
local macro_rules | `(tactic| walk_at "call builtin:len") => `(tactic| refine Stop.go ?_)
local macro_rules | `(tactic| walk_at "exec For Name Call cons nil") => `(tactic| (k_here; (rename Fr _ _ _ _ => lF'); (with_unfolding_all refine' For_invVF lF' ?k1 ?k2 ?_; (case k1 => exact rfl); (case k2 => exact rfl); k_whole)))
local macro_rules | `(tactic| walk_at "eval Name") => `(tactic| (refine' nameX_L ?k1 ?k2 ?_; (case k1 => k_asm); (case k2 => first | exact rfl | assumption | with_unfolding_all assumption); k_whole))

theorem tailD {scope : Scope} {body : List Stmt} (hlaw : lawTail 8 = some (scope, body)) {base h₀ : Heap} {L fa fd sl : Addr} {cd : Value} {m : Str → Option Value} {s : Shared}
    {Q : Flow → Shared → Prop} {o1 o2 o3 fo : Obj} {t1 t2 tW tg tk0 : Tok} {one other g : Int} {W k : Nat} {tl rest : List (Addr × Obj)} {D : List (List Int × Int)} {svs : List Value} {sns : List Int}
    (B : Below callerA base [] h₀) (X : (hd.heap_39 w.params).In h₀) (T : Top p loose mean mg mb h₀) (C1 : CodeHd h₀ 41 37) (C2 : CodeHd h₀ 34 30)
    (F : Fr h₀ L s.heap m) (N : News h₀ L s.heap ((L + 1 + 1 + 1, o3) :: (L + 1 + 1, o2) :: (L + 1, o1) :: (fd, fo) :: (tl ++ rest))) (ht : Tabs tl)
    (hofft : OwnOff tl [L + 1 + 1 + 1, L + 1 + 1, L + 1, fd]) (hoffe : OwnOff rest [L + 1 + 1 + 1, L + 1 + 1, L + 1, fd]) (htr : ∀ q ∈ tl, ∀ r ∈ rest, q.1 ≠ r.1)
    (d1 : o1.data = .cell (some (.int one t1))) (d2 : o2.data = .cell (some (.int other t2))) (ho1 : 1 ≤ one ∧ one ≤ 9) (ho2 : 1 ≤ other ∧ other ≤ 9) (hC : Crt one other g W)
    (hT : FoundIn w fd fo rest D) (hD : DInv one other g W one.toNat 0 D)
    (hsl : h₀.IsList sl svs.toArray) (hsn : IntsAre svs sns) (hl63 : sns.length ≤ 63) (hk : k + 1 < sns.length)
    (e1 : m (Str.ofString "script") = some (.ref sl)) (e2 : m (Str.ofString "k") = some (.int (k : Int) tk0)) (e3 : m (Str.ofString "found") = some (.ref fd)) (e4 : m (Str.ofString "whole") = some (.int (W : Int) tW)) (e5 : m (Str.ofString "shared") = some (.int g tg))
    (hQ : ∀ h' tk' m' tl', Fr h₀ L h' m' → News h₀ L h' ((L + 1 + 1 + 1, o3) :: (L + 1 + 1, o2) :: (L + 1, o1) :: (tl' ++ rest)) → Tabs tl' → OwnOff tl' [L + 1 + 1 + 1, L + 1 + 1, L + 1] → (∀ q ∈ tl', ∀ r ∈ rest, q.1 ≠ r.1) →
      m' (Str.ofString "script") = some (.ref sl) → Q .next { s with heap := h', toks := tk' }) :
    wpAny (model PROG w) (callerA.deeper (envOfC (Str.ofString "law") scope L fa cd)) (execs body (envOfC (Str.ofString "law") scope L fa cd)) Q (fun _ _ => False) s := by
  with_unfolding_all injection hlaw with hlaw
  with_unfolding_all injection hlaw with hl1 hl2
  subst hl1 hl2
  revert X
  unfold PROG
  w_top off
  k_fill
  intro X
  have hA := answers ho1.1 hC hD
  have hW1 := hC.w1
  have hW81 := hC.w2
  have hW0 : (W : Int) ≠ 0 := by omega
  (try k_fold)
  k_steps
  rename IsRange _ _ _ _ _ _ _ _ => hR
  rename Fr _ _ _ _ => F1
  rename News _ _ _ _ => N1
  refine Stop.mk ?_
  refine' range_loop (n := (2 * (W : Int) - (0 - (W : Int))).toNat) (fun I2 j m2 news => J9 L fd o1 o2 o3 fo rest m I2 j m2 news) rfl hR (small_one (by omega) (by omega) (by omega) (by omega)) (rangeSize_nat _ _) F1 N1 ?hj ?step ?done
  case hj =>
    intro I2 lt2
    refine ⟨tl, rfl, ht, ?_, ?_, htr, fun y _ => rfl⟩
    · intro q hq x hx
      rcases List.mem_cons.mp hx with rfl | hx
      · exact Nat.ne_of_lt (lt2 q (.tail _ (.tail _ (.tail _ (.tail _ (List.mem_append_left _ hq))))))
      · exact hofft q hq x hx
    · intro q hq x hx
      rcases List.mem_cons.mp hx with rfl | hx
      · exact Nat.ne_of_lt (lt2 q (.tail _ (.tail _ (.tail _ (.tail _ (List.mem_append_right _ hq))))))
      · exact hoffe q hq x hx
  case step =>
    intro I2 j t2' m2 news2 h2 tk2 hj hJ2 hoI2 F2 N2
    exact turn9 (by with_unfolding_all rfl) B X T C1 C2 d1 d2 ho1 ho2 hW1 (by omega) hT hA e3 e4 hJ2 hoI2 F2 N2
  case done =>
    intro I2 m2 news2 h2 tk2 hJ2 F2 N2
    obtain ⟨tl2, rfl, ht2, hofft2, hoffe2, htr2, hm2⟩ := hJ2
    have hofft2' : OwnOff tl2 [L + 1 + 1 + 1, L + 1 + 1, L + 1, fd] := fun q hq x hx => hofft2 q hq x (.tail _ hx)
    have e1' : m2 (Str.ofString "script") = some (.ref sl) := (hm2 _ (by decide)).trans e1
    have e2' : m2 (Str.ofString "k") = some (.int (k : Int) tk0) := (hm2 _ (by decide)).trans e2
    have e3' : m2 (Str.ofString "found") = some (.ref fd) := (hm2 _ (by decide)).trans e3
    have e4' : m2 (Str.ofString "whole") = some (.int (W : Int) tW) := (hm2 _ (by decide)).trans e4
    have e5' : m2 (Str.ofString "shared") = some (.int g tg) := (hm2 _ (by decide)).trans e5
    clear F1 N1 hR
    k_steps
    rename Fr _ _ _ _ => F3
    rename News _ _ _ _ => N3'
    have a1 := fmod_lo (sns.getD (Int.toNat (k : Int)) 0) (n := (W : Int)) (by omega)
    have a2 := fmod_hi (sns.getD (Int.toNat (k : Int)) 0) (n := (W : Int)) (by omega)
    have b1 := fmod_lo (sns.getD (Int.toNat ((k : Int) + 1)) 0) (n := (W : Int)) (by omega)
    have b2 := fmod_hi (sns.getD (Int.toNat ((k : Int) + 1)) 0) (n := (W : Int)) (by omega)
    have N3 := cb_drop N3' (fun q hq => List.mem_cons_of_mem _ hq)
    clear N3'
    generalize (sns.getD (Int.toNat (k : Int)) 0).fmod (W : Int) = lf at a1 a2 F3 ⊢
    generalize (sns.getD (Int.toNat ((k : Int) + 1)) 0).fmod (W : Int) = rt at b1 b2 F3 ⊢

    refine Stop.mk ?_
    refine' Spec.use (rest := (L + 1 + 1 + 1, o3) :: (L + 1 + 1, o2) :: (L + 1, o1) :: (fd, fo) :: rest) (rests (a := lf) (by omega) (by omega) ho1.1 ho1.2 ho2.1 ho2.2 ht2) rfl B F3 rfl rfl X T C1 C2 N3 ?sub ?subr ?off (fun _ _ _ => trivial) (by decide) (by decide) ?_
    case sub => exact fun q hq => .tail _ (.tail _ (.tail _ (.tail _ (List.mem_append_left _ hq))))
    case subr => exact ((((List.sublist_append_right tl2 rest).cons_cons _).cons_cons _).cons_cons _).cons_cons _ |>.subset
    case off => exact off_heads (heads := [(L + 1 + 1 + 1, o3), (L + 1 + 1, o2), (L + 1, o1), (fd, fo)]) hofft2' htr2
    rintro v nd h4 tk4 F4 N4' off4 ⟨t4, u4, v4, tl4, rfl, rfl, ht4⟩
    simp only [List.cons_append] at N4'
    have N4 : News h₀ L h4 ((t4, tup2 (lf % one) (lf % other) u4 v4) :: (L + 1 + 1 + 1, o3) :: (L + 1 + 1, o2) :: (L + 1, o1) :: (fd, fo) :: (tl4 ++ rest)) := by
      refine cb_drop N4' ?_
      intro q hq
      simp only [List.mem_cons, List.mem_append] at hq ⊢
      rcases hq with h | h | h | h | h | h | h <;> simp only [h, true_or, or_true]
    have hoff4 : OwnOff tl4 [L + 1 + 1 + 1, L + 1 + 1, L + 1, fd] := by
      intro q hq x hx
      simp only [List.mem_cons, List.not_mem_nil, or_false] at hx
      have := fun r hr => off4 q (.tail _ hq) r hr
      simp only [List.forall_mem_cons] at this
      rcases hx with rfl | rfl | rfl | rfl
      · exact this.1
      · exact this.2.1
      · exact this.2.2.1
      · exact this.2.2.2.1
    have htr4 : ∀ q ∈ tl4, ∀ r ∈ rest, q.1 ≠ r.1 := fun q hq r hr => off4 q (.tail _ hq) r (.tail _ (.tail _ (.tail _ (.tail _ hr))))
    clear N4' off4
    try dsimp only
    try k_fold
    k_steps
    rename Fr _ _ _ _ => F5
    rename News _ _ _ _ => N5'
    have N5 := cb_drop N5' (fun q hq => List.mem_cons_of_mem _ hq)
    clear N5'
    have hk1 : ([(lf % one + rt % one).fmod one, (lf % other + rt % other).fmod other], (lf + rt) % (W : Int)) ∈ D := by
      rw [Int.fmod_eq_emod_of_nonneg _ (by omega), Int.fmod_eq_emod_of_nonneg _ (by omega), ← Int.add_emod, ← Int.add_emod]
      exact hA (lf + rt)
    have hk2 : ([(lf % one * (rt % one)).fmod one, (lf % other * (rt % other)).fmod other], (lf * rt) % (W : Int)) ∈ D := by
      rw [Int.fmod_eq_emod_of_nonneg _ (by omega), Int.fmod_eq_emod_of_nonneg _ (by omega), ← Int.mul_emod, ← Int.mul_emod]
      exact hA (lf * rt)
    have hn1 : ((lf + rt) % (W : Int) != (lf + rt).fmod (W : Int)) = false := by rw [Int.fmod_eq_emod_of_nonneg _ (by omega)]; simp
    have hn2 : ((lf * rt) % (W : Int) != (lf * rt).fmod (W : Int)) = false := by rw [Int.fmod_eq_emod_of_nonneg _ (by omega)]; simp
    have ho10 : one ≠ 0 := by omega
    have ho20 : other ≠ 0 := by omega

    refine Stop.mk ?_
    refine' Spec.use (rest := (L + 1 + 1 + 1, o3) :: (L + 1 + 1, o2) :: (L + 1, o1) :: (fd, fo) :: rest) (rests (a := rt) (by omega) (by omega) ho1.1 ho1.2 ho2.1 ho2.2 ht4) rfl B F5 rfl rfl X T C1 C2 N5 ?sub ?subr ?off (fun _ _ _ => trivial) (by decide) (by decide) ?_
    case sub => exact fun q hq => .tail _ (.tail _ (.tail _ (.tail _ (List.mem_append_left _ hq))))
    case subr => exact ((((List.sublist_append_right tl4 rest).cons_cons _).cons_cons _).cons_cons _).cons_cons _ |>.subset
    case off => exact off_heads (heads := [(L + 1 + 1 + 1, o3), (L + 1 + 1, o2), (L + 1, o1), (fd, fo)]) hoff4 htr4
    rintro v nd h6 tk6 F6 N6' off6 ⟨t6, u6, v6, tl6, rfl, rfl, ht6⟩
    simp only [List.cons_append] at N6'
    have N6 : News h₀ L h6 ((t6, tup2 (rt % one) (rt % other) u6 v6) :: (L + 1 + 1 + 1, o3) :: (L + 1 + 1, o2) :: (L + 1, o1) :: (fd, fo) :: (tl6 ++ rest)) := by
      refine cb_drop N6' ?_
      intro q hq
      simp only [List.mem_cons, List.mem_append] at hq ⊢
      rcases hq with h | h | h | h | h | h | h <;> simp only [h, true_or, or_true]
    have hoff6 : OwnOff tl6 [L + 1 + 1 + 1, L + 1 + 1, L + 1, fd] := by
      intro q hq x hx
      simp only [List.mem_cons, List.not_mem_nil, or_false] at hx
      have := fun r hr => off6 q (.tail _ hq) r hr
      simp only [List.forall_mem_cons] at this
      rcases hx with rfl | rfl | rfl | rfl
      · exact this.1
      · exact this.2.1
      · exact this.2.2.1
      · exact this.2.2.2.1
    have htr6 : ∀ q ∈ tl6, ∀ r ∈ rest, q.1 ≠ r.1 := fun q hq r hr => off6 q (.tail _ hq) r (.tail _ (.tail _ (.tail _ (.tail _ hr))))
    clear N6' off6
    try dsimp only
    try k_fold
    k_steps
    rename Fr _ _ _ _ => F7
    rename News _ _ _ _ => N7
    refine Stop.mk ?_
    refine' get_found (fd := fd) (o := fo) (els := rest) ?hu hT (N7.get (.tail _ (.tail _ (.tail _ (.tail _ (.tail _ (.head _))))))) ?hels (N7.get (.head _)) (tkey2 _ _ _ _) hk1 ?_
    case hu => simp only [units_deeper, units_caller]; decide
    case hels => exact fun e he => N7.get (.tail _ (.tail _ (.tail _ (.tail _ (.tail _ (.tail _ (List.mem_append_right _ he)))))))
    intro t8
    k_steps
    rename Fr _ _ _ _ => F8
    rename News _ _ _ _ => N8
    refine Stop.mk ?_
    refine' get_found (fd := fd) (o := fo) (els := rest) ?hu hT (N8.get (.tail _ (.tail _ (.tail _ (.tail _ (.tail _ (.tail _ (.head _)))))))) ?hels (N8.get (.head _)) (tkey2 _ _ _ _) hk2 ?_
    case hu => simp only [units_deeper, units_caller]; decide
    case hels => exact fun e he => N8.get (.tail _ (.tail _ (.tail _ (.tail _ (.tail _ (.tail _ (.tail _ (List.mem_append_right _ he))))))))
    intro t9
    have hfo : (fd, fo) ∈ (t6, tup2 (rt % one) (rt % other) u6 v6) :: (L + 1 + 1 + 1, o3) :: (L + 1 + 1, o2) :: (L + 1, o1) :: (fd, fo) :: (tl6 ++ rest) := .tail _ (.tail _ (.tail _ (.tail _ (.head _))))
    by_cases hg1 : g = 1
    · have hg2 : (g == 1) = true := beq_iff_eq.mpr hg1
      have hln : ((D.length : Int) != one * other) = false := by
        have := hD.full hg1
        rw [this, Int.toNat_of_nonneg (by omega)]
        simp
      have hDl : D.length ≤ 1000 := by have := hD.len; omega
      k_steps
      refine Stop.mk ?_
      refine' len_found hT (N8.get (.tail _ (.tail _ hfo))) hDl ?_
      k_steps
      refine hQ _ _ _ tl6 F8 (cb_drop N8 ?_) ht6 ?_ htr6 (by with_unfolding_all exact e1')
      · intro q hq
        simp only [List.mem_cons, List.mem_append] at hq ⊢
        rcases hq with h | h | h | h | h <;> simp only [h, true_or, or_true]
      · intro q hq x hx
        refine hoff6 q hq x ?_
        simp only [List.mem_cons, List.not_mem_nil, or_false] at hx ⊢
        rcases hx with h | h | h <;> simp only [h, true_or, or_true]
    · have hg2 : (g == 1) = false := beq_eq_false_iff_ne.mpr hg1
      k_steps
      refine hQ _ _ _ tl6 F8 (cb_drop N8 ?_) ht6 ?_ htr6 (by with_unfolding_all exact e1')
      · intro q hq
        simp only [List.mem_cons, List.mem_append] at hq ⊢
        rcases hq with h | h | h | h | h <;> simp only [h, true_or, or_true]
      · intro q hq x hx
        refine hoff6 q hq x ?_
        simp only [List.mem_cons, List.not_mem_nil, or_false] at hx ⊢
        rcases hx with h | h | h <;> simp only [h, true_or, or_true]
end
end Mine

namespace Mine
section
variable {prog : Program} {w : World} {A : Around} {h₀ : Heap} {L : Addr} {m : Str → Option Value} {env : Env} {elt : Expr} {x : Str} {scope : Scope} {cl : List (Str × Addr)} {s : Shared} {S : List (Addr × Obj) → Prop} {Fin : List Value → List (Addr × Obj) → Prop}
/-- a comprehension that cuts the tuples of a list -/
theorem cut_rest {vs : List Value} {rows : List (List Int)} {c1 c2 c3 : Addr × Obj} {tl rest : List (Addr × Obj)} (hr : RowsIn w rest vs rows) (hoff : OwnOff (tl ++ rest) [c3.1, c2.1, c1.1]) (htr : ∀ q ∈ tl, ∀ r ∈ rest, q.1 ≠ r.1)
    (turn : ∀ t o row I oI C oC D m₂ ys rest' h tk (E' : Value → Shared → Prop), row ∈ rows → (t, o) ∈ rest' → TupKeyObj (intKind PROG w) row o → (∀ e ∈ rest, e ∈ rest') → LCg.NsObj oC m₂ → m₂ x = some (.ref t) → Fr h₀ L h m →
      News h₀ L h ((I, oI) :: (C, oC) :: (D, LCg.lst ys) :: c3 :: c2 :: c1 :: (tl ++ rest')) → LCg.Off3 I C D (c3 :: c2 :: c1 :: (tl ++ rest')) → ((@Ne Nat I C) ∧ (@Ne Nat I D) ∧ (@Ne Nat C D)) →
      wpAny (model prog w) A (eval elt (compEnvC scope cl C env)) (LCg.CompEnd h₀ L m { s with heap := h, toks := tk } I oI C oC D (LCg.lst ys) S
        (fun y news' => ∃ D5 o5, y = .ref D5 ∧ news' = c3 :: c2 :: c1 :: (tl ++ (D5, o5) :: rest') ∧ TupKeyObj (intKind PROG w) (row.take 2) o5 ∧ ∀ q ∈ c3 :: c2 :: c1 :: (tl ++ rest'), q.1 < D5)) E' { s with heap := h, toks := tk })
    (fin : ∀ ys rest', RowsIn w rest' ys (rows.map (List.take 2)) → (∀ e ∈ rest, e ∈ rest') → OwnOff (tl ++ rest') [c3.1, c2.1, c1.1] → (∀ q ∈ tl, ∀ r ∈ rest', q.1 ≠ r.1) → Fin ys (c3 :: c2 :: c1 :: (tl ++ rest'))) :
    LCg.CompRest prog w A h₀ L m env elt x scope cl s S (fun i v => vs.toArray[i]? = some v) Fin vs.toArray.size 0 [] (c3 :: c2 :: c1 :: (tl ++ rest)) := by
  have hl := hr.len
  have key : ∀ (j i : Nat) (ys : List Value) (rest' : List (Addr × Obj)), i + j = vs.length → RowsIn w rest' ys ((rows.take i).map (List.take 2)) → (∀ e ∈ rest, e ∈ rest') → OwnOff (tl ++ rest') [c3.1, c2.1, c1.1] → (∀ q ∈ tl, ∀ r ∈ rest', q.1 ≠ r.1) →
      LCg.CompRest prog w A h₀ L m env elt x scope cl s S (fun i v => vs.toArray[i]? = some v) Fin j i ys (c3 :: c2 :: c1 :: (tl ++ rest')) := by
    intro j
    induction j with
    | zero =>
      intro i ys rest' hi hy hs ho ht
      rw [List.take_of_length_le (by omega)] at hy
      exact LCg.CompRest.zero (fin ys rest' hy hs ho ht)
    | succ j ih =>
      intro i ys rest' hi hy hs ho ht
      refine LCg.CompRest.succ ?_
      intro v I oI C oC D m₂ h tk E' hv hC hx F N off ne
      have hi' : i < rows.length := by omega
      obtain ⟨t, o, h1, h2, h3⟩ := hr.row i rows[i] (List.getElem?_eq_getElem hi')
      rw [List.getElem?_toArray, h1] at hv
      cases hv
      refine wpAny_mono (turn t o rows[i] I oI C oC D m₂ ys rest' h tk E' (List.getElem_mem hi') (hs _ h2) h3 hs hC hx F N off ne) (fun y s₂ hq => ?_) fun _ _ e => e
      obtain ⟨h', tk', nw, e, F', N', off', hS, D5, o5, hy', hn, hk, hlt⟩ := hq
      subst hn
      subst hy'
      refine ⟨h', tk', _, e, F', N', off', hS, ih (i + 1) _ _ (by omega) ?_ (fun e he => .tail _ (hs e he)) ?_ ?_⟩
      · have hyl := hy.len
        have z := hy.ins (t := D5) (o := o5) hk ys.length (by omega)
        rw [List.take_of_length_le (Nat.le_refl _), List.drop_eq_nil_of_le (Nat.le_refl _), List.append_nil, hyl, List.take_of_length_le (Nat.le_refl _), List.drop_eq_nil_of_le (Nat.le_refl _), List.append_nil] at z
        rw [List.take_add_one, List.getElem?_eq_getElem hi', List.map_append]
        exact z
      · intro q hq a ha
        rcases List.mem_append.mp hq with hq | hq
        · exact ho q (List.mem_append_left _ hq) a ha
        · rcases List.mem_cons.mp hq with rfl | hq
          · simp only [List.mem_cons, List.not_mem_nil, or_false] at ha
            rcases ha with rfl | rfl | rfl
            · exact fun e => Nat.ne_of_lt (hlt _ (.head _)) e.symm
            · exact fun e => Nat.ne_of_lt (hlt _ (.tail _ (.head _))) e.symm
            · exact fun e => Nat.ne_of_lt (hlt _ (.tail _ (.tail _ (.head _)))) e.symm
          · exact ho q (List.mem_append_right _ hq) a ha
      · intro q hq r hr
        rcases List.mem_cons.mp hr with rfl | hr
        · exact Nat.ne_of_lt (hlt _ (.tail _ (.tail _ (.tail _ (List.mem_append_left _ hq)))))
        · exact ht q hq r hr
  exact key _ 0 [] rest (by rw [List.size_toArray]; omega) (by simp only [List.take_zero, List.map_nil]; exact .nil) (fun _ h => h) hoff htr
end

theorem off1_mem {D : Addr} : ∀ {l : List (Addr × Obj)}, LCg.Off1 D l → ∀ p ∈ l, p.1 ≠ D
  | [], _, _, h => nomatch h
  | _ :: _, ⟨h, _⟩, _, .head _ => h
  | _ :: _, ⟨_, h⟩, p, .tail _ hp => off1_mem h p hp

theorem pairs_ord {one other g : Int} {W : Nat} {rows : List (List Int)} (h : RowsOf one other W rows) (hC : Crt one other g W) : Ordered (rows.map (List.take 2)) := by
  unfold Ordered
  rw [List.pairwise_map]
  refine List.Pairwise.imp_of_mem ?_ h.ord
  intro x y hx hy hl
  obtain ⟨n, hn, rfl⟩ := (h.mem x).mp hx
  obtain ⟨m, hm, rfl⟩ := (h.mem y).mp hy
  unfold rowOf at hl ⊢
  simp only [List.take_succ_cons, List.take_zero]
  simp only [lexLt] at hl ⊢
  by_cases h1 : (n : Int) % one = (m : Int) % one
  · by_cases h2 : (n : Int) % other = (m : Int) % other
    · have := hC.inj n m hn hm h1 h2
      subst this
      simp at hl
    · rw [if_pos h1, if_neg h2] at hl ⊢; exact hl
  · rw [if_neg h1] at hl ⊢; exact hl
theorem foldl_id : ∀ (ks : List Int) (l : List Int), ks.foldl (fun l _ => l) l = l
  | [], _ => rfl
  | _ :: ks, l => foldl_id ks l

section
variable {w : World} {p : Program} {loose : List Str} {mean : ExcName → Option Value} {mg mb : Str → Option Value}
local macro_rules | `(tactic| walk_at "call ref") => `(tactic| refine Stop.go ?_)
local macro_rules | `(tactic| walk_at "pyIter ref") => `(tactic| refine Stop.go ?_)
local macro_rules | `(tactic| walk_at "CompSrc") => `(tactic| refine Stop.go ?_)
local macro_rules | `(tactic| walk_at "CompSrcT") => `(tactic| refine Stop.go ?_)
local macro_rules | `(tactic| walk_at "eval ListComp") => `(tactic| (lct_look; lcg_calm; k_dflt (refine LCt.ListComp_T (F₀ := by k_asm) (by with_unfolding_all rfl) (by decide) (by rfl) (by decide) (by rfl) ?_)))
local macro_rules | `(tactic| walk_at "subscriptTail") => `(tactic| refine Stop.go ?_)
local macro_rules | `(tactic| walk_at "subscriptTail Name Slice ref ref") => `(tactic| refine Stop.go ?_)
local macro_rules | `(tactic| walk_at "compareOp GtE ref ref") => `(tactic| refine Stop.go ?_)
local macro_rules | `(tactic| walk_at "call builtin:len") => `(tactic| refine Stop.go ?_)
local macro_rules | `(tactic| walk_at "exec For Name Call cons nil") => `(tactic| (k_here; (rename Fr _ _ _ _ => lF'); (with_unfolding_all refine' For_invVF lF' ?k1 ?k2 ?_; (case k1 => exact rfl); (case k2 => exact rfl); k_whole)))
local macro_rules | `(tactic| walk_at "eval Name") => `(tactic| (refine' nameX_L ?k1 ?k2 ?_; (case k1 => k_asm); (case k2 => first | exact rfl | assumption | with_unfolding_all assumption); k_whole))

theorem tailB {scope : Scope} {body : List Stmt} (hlaw : lawTail 4 = some (scope, body)) {base h₀ : Heap} {L fa ol : Addr} {cd : Value} {m : Str → Option Value} {s : Shared}
    {Q : Flow → Shared → Prop} {o1 o2 o3 : Obj} {t1 t2 tg tW : Tok} {v3 : Option Value} {one other g : Int} {W k : Nat} {tl rest : List (Addr × Obj)} {vs : List Value} {ep : Nat} {rows : List (List Int)} {sl : Addr} {svs : List Value} {sns : List Int} {tk0 : Tok}
    (B : Below callerA base [] h₀) (X : (hd.heap_39 w.params).In h₀) (T : Top p loose mean mg mb h₀) (C1 : CodeHd h₀ 41 37) (C2 : CodeHd h₀ 34 30)
    (F : Fr h₀ L s.heap m) (N : News h₀ L s.heap ((L + 1 + 1 + 1, o3) :: (L + 1 + 1, o2) :: (L + 1, o1) :: (tl ++ rest))) (ht : Tabs tl) (hoff : OwnOff (tl ++ rest) [L + 1 + 1 + 1, L + 1 + 1, L + 1]) (htr : ∀ q ∈ tl, ∀ r ∈ rest, q.1 ≠ r.1)
    (d1 : o1.data = .cell (some (.int one t1))) (d2 : o2.data = .cell (some (.int other t2))) (d3 : o3.data = .cell v3) (ho1 : 1 ≤ one ∧ one ≤ 9) (ho2 : 1 ≤ other ∧ other ≤ 9) (hC : Crt one other g W)
    (hord : (ol, listOf vs.toArray ep) ∈ rest) (hrows : RowsIn w rest vs rows) (hro : RowsOf one other W rows)
    (e1 : m (Str.ofString "order") = some (.ref ol)) (e2 : m (Str.ofString "shared") = some (.int g tg)) (e3 : m (Str.ofString "whole") = some (.int (W : Int) tW)) (hg : 1 ≤ g ∧ g ≤ 9)
    (hsl : h₀.IsList sl svs.toArray) (hsn : IntsAre svs sns) (hl63 : sns.length ≤ 63) (hk : k + 1 < sns.length)
    (e4 : m (Str.ofString "script") = some (.ref sl)) (e5 : m (Str.ofString "k") = some (.int (k : Int) tk0))
    (hQ : ∀ h' tk' m' tl' o3' v3', o3'.data = .cell v3' → Fr h₀ L h' m' → News h₀ L h' ((L + 1 + 1 + 1, o3') :: (L + 1 + 1, o2) :: (L + 1, o1) :: (tl' ++ rest)) → Tabs tl' → OwnOff tl' [L + 1 + 1 + 1, L + 1 + 1, L + 1] → (∀ q ∈ tl', ∀ r ∈ rest, q.1 ≠ r.1) →
      m' (Str.ofString "script") = some (.ref sl) → Q .next { s with heap := h', toks := tk' }) :
    wpAny (model PROG w) (callerA.deeper (envOfC (Str.ofString "law") scope L fa cd)) (execs body (envOfC (Str.ofString "law") scope L fa cd)) Q (fun _ _ => False) s := by
  with_unfolding_all injection hlaw with hlaw
  with_unfolding_all injection hlaw with hl1 hl2
  subst hl1 hl2
  revert X
  unfold PROG
  w_top off
  k_fill
  intro X
  (try k_fold)
  k_steps
  refine Stop.mk ?_
  refine' LCg.CompSrc.ledger (its := vs.toArray) (k := ep) rfl F N (.tail _ (.tail _ (.tail _ (List.mem_append_right _ hord)))) ?hz ?_
  case hz => rw [List.size_toArray, hrows.len, hro.len, sizeLine_eq]; have := hC.w2; omega
  intro g1
  refine' cut_rest hrows hoff htr ?turn ?fin
  case turn =>
    intro t o row I oI C oC D m2 ys rest' h2 tk2 E2 hrow hto hkey hsub hC hx F2 N2 off2 ne2
    k_steps
    refine Stop.mk ?_
    obtain ⟨n9, hn9, rfl⟩ := (hro.mem row).mp hrow
    obtain ⟨q1, q2, q3, hq⟩ := tup3 hkey
    have hto' : (t, o) ∈ (I, oI) :: (C, oC) :: (D, LCg.lst ys) :: (L + 1 + 1 + 1, o3) :: (L + 1 + 1, o2) :: (L + 1, o1) :: (tl ++ rest') := .tail _ (.tail _ (.tail _ (.tail _ (.tail _ (.tail _ (List.mem_append_right _ hto))))))
    refine' cut2 F2 N2 (hq _ _ (N2.get hto')) ?_
    intro D5 h5 F5 N5 l5
    have hD5 : ∀ q ∈ (L + 1 + 1 + 1, o3) :: (L + 1 + 1, o2) :: (L + 1, o1) :: (tl ++ rest'), q.1 < D5 := fun q hq => l5 q (.tail _ (.tail _ (.tail _ hq)))
    simp only [List.forall_mem_cons] at l5
    obtain ⟨l5I, l5C, l5D, -⟩ := l5
    refine LCg.CompEnd.intro F5 N5 ((L + 1 + 1 + 1, o3) :: (L + 1 + 1, o2) :: (L + 1, o1) :: (tl ++ (D5, tup2 ((n9 : Int) % one) ((n9 : Int) % other) q1 q2) :: rest')) ?_ ?_ (.inr ⟨_, .tail _ (.tail _ (.tail _ (List.mem_append_right _ (.tail _ (hsub _ hord))))), rfl, _, rfl⟩) ⟨D5, _, rfl, rfl, tkey2 _ _ _ _, hD5⟩
    · intro q hq
      simp only [List.mem_cons, List.mem_append] at hq ⊢
      rcases hq with h | h | h | h | h | h | h | h | h <;> simp only [h, true_or, or_true]
    · refine LCg.Off3.of fun q hq => ?_
      have hm := off2.mem
      simp only [List.mem_cons, List.mem_append] at hq
      rcases hq with h | h | h | h | h | h
      · exact hm q (by simp only [h, List.mem_cons, true_or, or_true])
      · exact hm q (by simp only [h, List.mem_cons, true_or, or_true])
      · exact hm q (by simp only [h, List.mem_cons, true_or, or_true])
      · exact hm q (by simp only [h, List.mem_cons, List.mem_append, true_or, or_true])
      · rw [h]; exact ⟨fun e => Nat.ne_of_lt l5I e.symm, fun e => Nat.ne_of_lt l5C e.symm, fun e => Nat.ne_of_lt l5D e.symm⟩
      · exact hm q (by simp only [h, List.mem_cons, List.mem_append, true_or, or_true])
  case fin =>
    intro ys rest' hrows' hsub hoff' htr' D6 h6 tk6 F6 N6 off6
    dsimp only at hoff'
    have hD6 := off1_mem off6
    simp only [LCg.Off1] at off6
    have hysl : ys.toArray.size = W := by
      rw [List.size_toArray, hrows'.len, List.length_map, hro.len]
    clear N
    try dsimp only
    k_steps
    rename Fr _ _ _ _ => F7
    rename News _ _ _ _ => N7
    refine Stop.mk ?_
    refine' len_is ⟨_, N7.get (.head _), rfl, _, rfl⟩ hysl (by have := hC.w2; omega) ?_
    k_steps
    rename IsRange _ _ _ _ _ _ _ _ => hR
    rename Fr _ _ _ _ => F8
    rename News _ _ _ _ => N8
    rename _ = Data.cell (some (Value.ref D6)) => d3'
    rename Obj => o3'

    have hpo := pairs_ord hro hC
    have hW81 := hC.w2
    refine Stop.mk ?_
    refine' LCt.CompSrcT.range rfl F8 N8 hR (small_one (by omega) (by omega) (by have := hC.w2; omega) (by have := hC.w2; omega)) (rangeSize_nat _ _) (by have := hC.w2; rw [sizeLine_eq]; omega) ?_
    intro g9
    refine' kci_range (fun l _ => l) ?turn2 ?fin2 ?grow2
    case grow2 => exact fun l k => Nat.le_succ _
    case turn2 =>
      intro k' t' I' oI' C' oC' D9 m2 ys9 l h9 tk9 E9 hlo hhi hys hoC hx F9 N9 off9 ne9 mk9
      have off9' := off9
      simp only [LCg.Off3] at off9
      obtain ⟨j, hj⟩ : ∃ j : Nat, k' = (j : Int) + 1 := ⟨(k' - 1).toNat, by omega⟩
      subst hj
      have hlen : (rows.map (List.take 2)).length = W := by rw [List.length_map, hro.len]
      have hj1 : j < (rows.map (List.take 2)).length := by omega
      have hj2 : j + 1 < (rows.map (List.take 2)).length := by omega
      obtain ⟨ta, oa, ha1, ha2, ha3⟩ := hrows'.row j _ (List.getElem?_eq_getElem hj1)
      obtain ⟨tb, ob, hb1, hb2, hb3⟩ := hrows'.row (j + 1) _ (List.getElem?_eq_getElem hj2)
      have hlex := List.pairwise_iff_getElem.mp hpo j (j + 1) hj1 hj2 (by omega)
      have hd2 : ∀ r ∈ rows.map (List.take 2), r.length = 2 := by
        intro r hr
        obtain ⟨r', hr', rfl⟩ := List.mem_map.mp hr
        rw [List.length_take, hro.dims r' hr']
        rfl
      have hge : (!lexLt (rows.map (List.take 2))[j] (rows.map (List.take 2))[j + 1]) = false := by rw [hlex]; rfl
      have hit : ∀ q ∈ rest', q ∈ (I', oI') :: (C', oC') :: (D9, LCg.lst ys9) :: (D6, LCg.lst ys) :: (L + 1 + 1 + 1, o3') :: (L + 1 + 1, o2) :: (L + 1, o1) :: (tl ++ rest') := fun q hq => .tail _ (.tail _ (.tail _ (.tail _ (.tail _ (.tail _ (.tail _ (List.mem_append_right _ hq)))))))
      k_steps
      refine Stop.mk ?_
      refine' item_list (x := .ref ta) ⟨_, N9.get (.tail _ (.tail _ (.tail _ (.head _)))), rfl, _, rfl⟩ (by omega) (by omega) ?hx ?_
      case hx =>
        rw [show ((j : Int) + 1 - 1).toNat = j by omega]
        simpa using ha1
      k_steps
      refine Stop.mk ?_
      refine' item_list (x := .ref tb) ⟨_, N9.get (.tail _ (.tail _ (.tail _ (.head _)))), rfl, _, rfl⟩ (by omega) (by omega) ?hx ?_
      case hx =>
        rw [show ((j : Int) + 1).toNat = j + 1 by omega]
        simpa using hb1
      k_steps
      refine Stop.mk ?_
      refine' ge_tup ?hu (tup_at (N9.get (hit _ ha2)) ha3) (tup_at (N9.get (hit _ hb2)) hb3) ?hl ?_
      case hu => simp only [units_deeper, units_caller]; decide
      case hl => exact (hd2 _ (List.getElem_mem _)).trans (hd2 _ (List.getElem_mem _)).symm
      rw [hge]
      k_steps
      exact LCg.CompEnd.intro F9 N9 _ (fun p hp => hp) off9' trivial ⟨rfl, rfl⟩
    case fin2 =>
      intro ys2 hys2 hlen2 D10 h10 tk10 F10 N10 off10
      rw [foldl_id] at hys2
      cases hys2
      have hD10 := off1_mem off10
      simp only [LCg.Off1] at off10
      try dsimp only
      k_steps
      rename_i d' hh1 o' lo' hs9 fs9 hi' fi9 l1 hh2 F9' N9' hh3 qk q1 q2 q3 hR2 F11 N11' keep9
      obtain ⟨l1a, l1b, l16, l13, l12, l11, l1r⟩ := l1
      have lt1 := ktn_ltOf l1r
      have hdfin : ∀ x ∈ [L + 1 + 1 + 1, L + 1 + 1, L + 1], D6 ≠ x := by
        intro x hx e
        simp only [List.mem_cons, List.not_mem_nil, or_false] at hx
        rcases hx with rfl | rfl | rfl
        · exact hD6 _ (.head _) e.symm
        · exact hD6 _ (.tail _ (.head _)) e.symm
        · exact hD6 _ (.tail _ (.tail _ (.head _))) e.symm
      have hoff7 : OwnOff (tl ++ (D6, LCg.lst ys) :: rest') [L + 1 + 1 + 1, L + 1 + 1, L + 1, d'] := by
        intro q hq x hx
        have hx' : x ∈ [L + 1 + 1 + 1, L + 1 + 1, L + 1] ∨ x = d' := by
          simp only [List.mem_cons, List.not_mem_nil, or_false] at hx ⊢
          rcases hx with h | h | h | h <;> simp only [h, true_or, or_true]
        rcases List.mem_append.mp hq with hq | hq
        · rcases hx' with hx' | rfl
          · exact hoff' q (List.mem_append_left _ hq) x hx'
          · exact Nat.ne_of_lt (lt1 q (List.mem_append_left _ hq))
        · rcases List.mem_cons.mp hq with rfl | hq
          · rcases hx' with hx' | rfl
            · exact hdfin x hx'
            · exact Nat.ne_of_lt l16
          · rcases hx' with hx' | rfl
            · exact hoff' q (List.mem_append_right _ hq) x hx'
            · exact Nat.ne_of_lt (lt1 q (List.mem_append_right _ hq))
      have htr7 : ∀ q ∈ tl, ∀ r ∈ (D6, LCg.lst ys) :: rest', q.1 ≠ r.1 := by
        intro q hq r hr
        rcases List.mem_cons.mp hr with rfl | hr
        · exact hD6 q (.tail _ (.tail _ (.tail _ (List.mem_append_left _ hq))))
        · exact htr' q hq r hr
      have N11 : News h₀ L hh3 ((L + 1 + 1 + 1, o3') :: (L + 1 + 1, o2) :: (L + 1, o1) :: (d', o') :: (tl ++ (D6, LCg.lst ys) :: rest')) := by
        refine cb_drop N11' ?_
        intro q hq
        simp only [List.mem_cons, List.mem_append] at hq ⊢
        rcases hq with h | h | h | h | h | h | h <;> simp only [h, true_or, or_true]
      clear N11'
      have hC1 := hC
      refine Stop.mk ?_
      refine' range_loop (n := one.toNat) (fun I2 i m2 news => J7 w L d' o1 o2 o3' one other g W tl ((D6, LCg.lst ys) :: rest') (fun y => if y = Str.ofString "found" then some (Value.ref d') else m y) I2 i m2 news) rfl hR2 (small_one (by omega) (by omega) (by omega) (by omega)) ?hn F11 N11 ?hj ?step ?done
      case hn => rw [rangeSize_nat, Int.sub_zero]
      case hj =>
        intro I2 lt2
        refine ⟨o', _, [], rfl, fun e he => he, ?_, htr7, FoundIn.ofEmpty lo' hi', ?_, fun y _ _ _ _ => rfl⟩
        · intro q hq x hx
          rcases List.mem_cons.mp hx with rfl | hx
          · exact Nat.ne_of_lt (lt2 q (.tail _ (.tail _ (.tail _ (.tail _ hq)))))
          · exact hoff7 q hq x hx
        · refine ⟨fun k n => ⟨fun h => (nomatch h), ?_⟩, Nat.zero_le _, fun _ => by simp⟩
          rintro ⟨n₀, _, _, _, h4⟩
          have z1 := Int.emod_nonneg (n₀ : Int) (show one ≠ 0 by omega)
          have z2 := Int.emod_nonneg (n₀ : Int) (show other ≠ 0 by omega)
          omega
      case step =>
        intro I2 i t2' m2 news2 h2 tk2 hi hJ2 hoI2 F2 N2
        have a1 : (fun y => if y = Str.ofString "found" then some (Value.ref d') else m y) (Str.ofString "order") = some (.ref ol) := (if_neg (by decide)).trans e1
        have a2 : (fun y => if y = Str.ofString "found" then some (Value.ref d') else m y) (Str.ofString "shared") = some (.int g tg) := (if_neg (by decide)).trans e2
        have a3 : (fun y => if y = Str.ofString "found" then some (Value.ref d') else m y) (Str.ofString "found") = some (.ref d') := if_pos rfl
        exact turn7 (pvs := ys) (pep := ys.length) (by with_unfolding_all rfl) B X T C1 C2 d1 d2 d3' ho1 ho2 (by omega) hg hC (.tail _ (hsub _ hord)) (List.mem_cons.mpr (.inl rfl)) (hrows.up fun e he => .tail _ (hsub e he)) (hrows'.up fun e he => .tail _ he) hro hpo
          ⟨Nat.ne_of_lt l11, Nat.ne_of_lt l12, Nat.ne_of_lt l13⟩ a1 a2 a3 hJ2 hoI2 F2 N2
      case done =>
        intro I2 m2 news2 h2 tk2 hJ2 F2 N2
        obtain ⟨fo2, rest2, D2, rfl, hsub2, hoff2, htr2, hT2, hD2, hm2⟩ := hJ2
        have z : ∀ y, y ≠ Str.ofString "a" → y ≠ Str.ofString "b" → y ≠ Str.ofString "place" → y ≠ Str.ofString "there" → y ≠ Str.ofString "found" → m2 y = m y := fun y y1 y2 y3 y4 y5 => (hm2 y y1 y2 y3 y4).trans (if_neg y5)
        refine tailD (by with_unfolding_all rfl) B X T C1 C2 F2 N2 ht (fun q hq x hx => hoff2 q (List.mem_append_left _ hq) x (.tail _ hx)) (fun q hq x hx => hoff2 q (List.mem_append_right _ hq) x (.tail _ hx)) htr2 d1 d2 ho1 ho2 hC hT2 hD2 hsl hsn hl63 hk
          ((z _ (by decide) (by decide) (by decide) (by decide) (by decide)).trans e4) ((z _ (by decide) (by decide) (by decide) (by decide) (by decide)).trans e5)
          ((hm2 _ (by decide) (by decide) (by decide) (by decide)).trans (if_pos rfl)) ((z _ (by decide) (by decide) (by decide) (by decide) (by decide)).trans e3) ((z _ (by decide) (by decide) (by decide) (by decide) (by decide)).trans e2) ?_
        intro h' tk' m' tl' F' N' ht' hoff' htr' e'
        refine hQ h' tk' m' tl' o3' _ d3' F' (cb_drop N' ?_) ht' hoff' (fun q hq r hr => htr' q hq r (hsub2 _ (.tail _ (hsub r hr)))) e'
        intro q hq
        simp only [List.mem_cons, List.mem_append] at hq ⊢
        rcases hq with h | h | h | h | h
        · simp only [h, true_or, or_true]
        · simp only [h, true_or, or_true]
        · simp only [h, true_or, or_true]
        · simp only [h, true_or, or_true]
        · exact .inr (.inr (.inr (.inr (hsub2 _ (.tail _ (hsub q h))))))
end
end Mine

namespace Mine
section
variable {w : World} {p : Program} {loose : List Str} {mean : ExcName → Option Value} {mg mb : Str → Option Value}
local macro_rules | `(tactic| walk_at "call ref") => `(tactic| refine Stop.go ?_)
local macro_rules | `(tactic| walk_at "pyIter ref") => `(tactic| refine Stop.go ?_)
local macro_rules | `(tactic| walk_at "CompSrcT") => `(tactic| refine Stop.go ?_)
local macro_rules | `(tactic| walk_at "call builtin:max") => `(tactic| refine Stop.go ?_)
local macro_rules | `(tactic| walk_at "binaryOp FloorDiv int int") => `(tactic| ((with_reducible refine' floordiv_as ?k1 ?k2 ?k3 ?_); (case k1 => assumption); (case k2 => assumption); (case k3 => assumption)))
local macro_rules | `(tactic| walk_at "exec For Name Call cons nil") => `(tactic| (k_here; (rename Fr _ _ _ _ => lF'); (with_unfolding_all refine' For_invVF lF' ?k1 ?k2 ?_; (case k1 => exact rfl); (case k2 => exact rfl); k_whole)))
local macro_rules | `(tactic| walk_at "eval Name") => `(tactic| (refine' nameX_L ?k1 ?k2 ?_; (case k1 => k_asm); (case k2 => first | exact rfl | assumption | with_unfolding_all assumption); k_whole))

theorem turn {scope : Scope} {body : List Stmt} (hlaw : lawFor = some (scope, body)) {base h₀ : Heap} {L fa : Addr} {cd : Value} {m : Str → Option Value} {s : Shared}
    {Q : Flow → Shared → Prop} {sl : Addr} {svs : List Value} {sns : List Int} {k : Nat} {tk0 : Tok} {o1 o2 o3 : Obj} {v1 v2 v3 : Option Value} {tl rest : List (Addr × Obj)}
    (B : Below callerA base [] h₀) (F : Fr h₀ L s.heap m) (X : (hd.heap_39 w.params).In h₀) (T : Top p loose mean mg mb h₀) (C1 : CodeHd h₀ 41 37) (C2 : CodeHd h₀ 34 30)
    (N : News h₀ L s.heap ((L + 1 + 1 + 1, o3) :: (L + 1 + 1, o2) :: (L + 1, o1) :: (tl ++ rest))) (ht : Tabs tl) (hoff : OwnOff (tl ++ rest) [L + 1 + 1 + 1, L + 1 + 1, L + 1]) (htr : ∀ q ∈ tl, ∀ r ∈ rest, q.1 ≠ r.1)
    (d1 : o1.data = .cell v1) (d2 : o2.data = .cell v2) (d3 : o3.data = .cell v3)
    (hsl : h₀.IsList sl svs.toArray) (hsn : IntsAre svs sns) (hl63 : sns.length ≤ 63) (hk : k + 1 < sns.length)
    (e1 : m (Str.ofString "script") = some (.ref sl)) (e2 : m (Str.ofString "k") = some (.int (k : Int) tk0))
    (hQ : ∀ h' tk' m' tl' o1' o2' o3' v1' v2' v3', o1'.data = .cell v1' → o2'.data = .cell v2' → o3'.data = .cell v3' → Fr h₀ L h' m' → News h₀ L h' ((L + 1 + 1 + 1, o3') :: (L + 1 + 1, o2') :: (L + 1, o1') :: (tl' ++ rest)) → Tabs tl' → OwnOff tl' [L + 1 + 1 + 1, L + 1 + 1, L + 1] → (∀ q ∈ tl', ∀ r ∈ rest, q.1 ≠ r.1) →
      m' (Str.ofString "script") = some (.ref sl) → Q .next { s with heap := h', toks := tk' }) :
    wpAny (model PROG w) (callerA.deeper (envOfC (Str.ofString "law") scope L fa cd)) (execs body (envOfC (Str.ofString "law") scope L fa cd)) Q (fun _ _ => False) s := by
  with_unfolding_all injection hlaw with hlaw
  with_unfolding_all injection hlaw with hl1 hl2
  subst hl1 hl2
  revert X
  unfold PROG
  w_top off
  k_fill
  intro X
  (try k_fold)
  k_steps
  rename_i o1' d1' hh1 o2' Fq Nq d2' hh2 tkr q1 q2 q3 hR F5 N5 keep5
  obtain ⟨one, hone⟩ : ∃ x : Int, x = 1 + (sns.getD (Int.toNat (k : Int)) 0).fmod 9 := ⟨_, rfl⟩
  obtain ⟨other, hother⟩ : ∃ x : Int, x = 1 + (sns.getD (Int.toNat ((k : Int) + 1)) 0).fmod 9 := ⟨_, rfl⟩
  rw [← hone] at d1'
  rw [← hother] at d2'
  replace N5 := cb_drop N5 (fun q hq => .tail _ hq)
  refine Stop.mk ?_
  refine' LCt.CompSrcT.range rfl F5 N5 hR (by decide) rfl (Nat.le_of_ble_eq_true rfl) ?_
  intro g5
  refine' kci_range (cdG one other) ?kturn ?kfin ?kgrow
  case kturn =>
    intro k' t' I' oI' C' oC' D2 m2 ys l h6 tk6 E6 hlo hhi hys hoC hx F6 N6 off6 ne6 mk6
    have off7 := off6
    simp only [LCg.Off3, and_true] at off6
    k_steps
    · exact LCg.CompEnd.intro F6 N6 _ (fun p hp => hp) off7 trivial ⟨rfl, _, _, rfl, by unfold cdG; exact if_pos ⟨by assumption, by assumption⟩⟩
    · exact LCg.CompEnd.intro F6 N6 _ (fun p hp => hp) off7 trivial ⟨rfl, by unfold cdG; exact if_neg fun h => absurd h.2 (by assumption)⟩
    · exact LCg.CompEnd.intro F6 N6 _ (fun p hp => hp) off7 trivial ⟨rfl, by unfold cdG; exact if_neg fun h => absurd h.1 (by assumption)⟩
  case kgrow =>
    intro l k
    unfold cdG
    split
    · exact Nat.le_of_eq List.length_append
    · exact Nat.le_succ _
  case kfin =>
    intro ys hys hlen D9 h9 tk9 F9 N9 off9
    clear F5 N5
    try dsimp only
    k_steps
    refine Stop.mk ?_
    refine' kso_max F9 N9 ⟨_, N9.get (.head _), rfl, _, rfl⟩ hys ?hne rfl ?_
    case hne => exact List.length_pos_of_mem (a := 1) ((cdG_mem _ _ _ _ _).mpr (.inr ⟨by decide, by simp, by simp⟩))
    intro h10 M tM tk10 F10 N10 hM1 hM2
    have hsh := cd_shared hM1 hM2
    clear hM1 hM2 F9 N9
    replace N10 := cb_drop N10 (fun q hq => .tail _ hq)
    have hM0 : M ≠ 0 := by have := hsh.pos; omega
    have ho1 : 1 ≤ one ∧ one ≤ 9 := by
      have a1 := fmod_lo (sns.getD (Int.toNat (k : Int)) 0) (n := 9) (by decide)
      have a2 := fmod_hi (sns.getD (Int.toNat (k : Int)) 0) (n := 9) (by decide)
      rw [hone]; omega
    have ho2 : 1 ≤ other ∧ other ≤ 9 := by
      have a1 := fmod_lo (sns.getD (Int.toNat ((k : Int) + 1)) 0) (n := 9) (by decide)
      have a2 := fmod_hi (sns.getD (Int.toNat ((k : Int) + 1)) 0) (n := 9) (by decide)
      rw [hother]; omega
    obtain ⟨W, hC⟩ := crt ho1.1 ho1.2 ho2.1 ho2.2 hsh
    have hW := hC.div
    have hp9 : Builtin.divisionGoesByPylong (one * other) M = false := PyProof.noPylong_small (by have := hsh.le; have := hsh.pos; omega)
    try dsimp only
    k_steps
    rename_i ol hh3 l1 D8 hh4 l8 hh5 hh6 hh7 F8 N8 hh8 tk9' q4 q5 q6 hR8 F9 N9 keep8
    obtain ⟨m4, F4, ⟨tw, m4w⟩, m4o, m4s, m4r, m4k⟩ : ∃ m4 : Str → Option Value, Fr h₀ L hh8 m4 ∧ (∃ tw, m4 (Str.ofString "whole") = some (.int (W : Int) tw)) ∧ m4 (Str.ofString "order") = some (.ref ol) ∧ m4 (Str.ofString "shared") = some (.int M tM) ∧
        m4 (Str.ofString "script") = some (.ref sl) ∧ m4 (Str.ofString "k") = some (.int (k : Int) tk0) := ⟨_, F9, ⟨_, rfl⟩, rfl, rfl, by with_unfolding_all exact e1, by with_unfolding_all exact e2⟩
    obtain ⟨l13, l12, l11, l1r⟩ := l1
    have lt1 := ktn_ltOf l1r
    have hW81 := hC.w2
    have N4 : News h₀ L hh8 ((L + 1 + 1 + 1, o3) :: (L + 1 + 1, o2') :: (L + 1, o1') :: (ol, listOf #[] 0) :: (tl ++ rest)) := by
      refine cb_drop N9 ?_
      intro q hq
      simp only [List.mem_cons, List.mem_append] at hq ⊢
      rcases hq with h | h | h | h | h | h <;> simp only [h, true_or, or_true]
    refine Stop.mk ?_
    refine' range_loop (n := W) (fun I2 i m2 news => J4 w L ol o1' o2' o3 one other rest m4 I2 i m2 news) rfl hR8 (small_one (by omega) (by omega) (by omega) (by omega)) ?hn F4 N4 ?hj ?step ?done
    case hn => rw [rangeSize_nat, Int.sub_zero, Int.toNat_natCast]
    case hj =>
      intro I2 lt2
      refine ⟨tl, rest, [], 0, [], rfl, ht, fun e he => he, ?_, htr, .nil, .zero _ _, fun y _ => rfl⟩
      intro q hq x hx
      simp only [List.mem_cons, List.not_mem_nil, or_false] at hx
      rcases hx with rfl | h | h | h | rfl
      · exact Nat.ne_of_lt (lt2 q (.tail _ (.tail _ (.tail _ (.tail _ hq)))))
      · exact hoff q hq x (by simp only [h, List.mem_cons, true_or, or_true])
      · exact hoff q hq x (by simp only [h, List.mem_cons, true_or, or_true])
      · exact hoff q hq x (by simp only [h, List.mem_cons, true_or, or_true])
      · exact Nat.ne_of_lt (lt1 q hq)
    case step =>
      intro I2 i t2' m2 news2 h2 tk2 hi hJ2 hoI2 F2 N2
      exact turn4 (by with_unfolding_all rfl) B X T C1 C2 d1' d2' ho1 ho2 (by omega) ⟨Nat.ne_of_lt (Nat.lt_of_succ_lt l11), Nat.ne_of_lt l11, Nat.ne_of_lt l12, Nat.ne_of_lt l13⟩ m4o hJ2 hoI2 F2 N2
    case done =>
      intro I2 m2 news2 h2 tk2 hJ2 F2 N2
      obtain ⟨tl2, els, vs, ep, rows, rfl, ht2, hsub2, hoff2, htr2, hrows2, hro2, hm2⟩ := hJ2
      have N3 : News h₀ L h2 ((L + 1 + 1 + 1, o3) :: (L + 1 + 1, o2') :: (L + 1, o1') :: (tl2 ++ (ol, listOf vs.toArray ep) :: els)) := by
        refine cb_drop N2 ?_
        intro q hq
        simp only [List.mem_cons, List.mem_append] at hq ⊢
        rcases hq with h | h | h | h | h | h <;> simp only [h, true_or, or_true]
      refine tailB (ol := ol) (vs := vs) (ep := ep) (by with_unfolding_all rfl) B X T C1 C2 F2 N3 ht2 ?hoff3 ?htr3 d1' d2' d3 ho1 ho2 hC (.head _) (hrows2.up fun e he => .tail _ he) hro2
        ((hm2 _ (by decide)).trans m4o) ((hm2 _ (by decide)).trans m4s) ((hm2 _ (by decide)).trans m4w) ⟨hsh.pos, hsh.le⟩ hsl hsn hl63 hk ((hm2 _ (by decide)).trans m4r) ((hm2 _ (by decide)).trans m4k) ?hQ3
      case hoff3 =>
        intro q hq x hx
        rcases List.mem_append.mp hq with hq | hq
        · exact hoff2 q (List.mem_append_left _ hq) x (by
            simp only [List.mem_cons, List.not_mem_nil, or_false] at hx ⊢
            rcases hx with h | h | h <;> simp only [h, true_or, or_true])
        · rcases List.mem_cons.mp hq with rfl | hq
          · simp only [List.mem_cons, List.not_mem_nil, or_false] at hx
            rcases hx with rfl | rfl | rfl
            · exact fun e => Nat.ne_of_lt l13 e.symm
            · exact fun e => Nat.ne_of_lt l12 e.symm
            · exact fun e => Nat.ne_of_lt l11 e.symm
          · exact hoff2 q (List.mem_append_right _ hq) x (by
              simp only [List.mem_cons, List.not_mem_nil, or_false] at hx ⊢
              rcases hx with h | h | h <;> simp only [h, true_or, or_true])
      case htr3 =>
        intro q hq r hr
        rcases List.mem_cons.mp hr with rfl | hr
        · exact hoff2 q (List.mem_append_left _ hq) _ (.tail _ (.tail _ (.tail _ (.tail _ (.head _)))))
        · exact htr2 q hq r hr
      case hQ3 =>
        intro h' tk' m' tl' o3' v3' d3' F' N' ht' hoff' htr' e'
        refine hQ h' tk' m' tl' o1' o2' o3' _ _ v3' d1' d2' d3' F' (cb_drop N' ?_) ht' hoff' (fun q hq r hr => htr' q hq r (.tail _ (hsub2 r hr))) e'
        intro q hq
        simp only [List.mem_cons, List.mem_append] at hq ⊢
        rcases hq with h | h | h | h | h
        · simp only [h, true_or, or_true]
        · simp only [h, true_or, or_true]
        · simp only [h, true_or, or_true]
        · simp only [h, true_or, or_true]
        · exact .inr (.inr (.inr (.inr (.inr (hsub2 q h)))))
end
end Mine

namespace Mine
theorem Tab.grown {P : Addr} {pos : Pos} {qual : Str} {tb : List (Addr × Obj)} (h : Tab P pos qual tb) : ∃ ps, (P, tabObj ps) ∈ tb := by
  cases h with
  | empty => exact ⟨_, .head _⟩
  | full _ _ _ => exact ⟨_, .head _⟩
theorem Tabs.grown {tl : List (Addr × Obj)} (h : Tabs tl) : ∃ p1 p2, (37, tabObj p1) ∈ tl ∧ (30, tabObj p2) ∈ tl := by
  obtain ⟨ta, tb, rfl, h1, h2, _⟩ := h
  obtain ⟨p2, m2⟩ := h1.grown
  obtain ⟨p1, m1⟩ := h2.grown
  exact ⟨p1, p2, List.mem_append_right _ m1, List.mem_append_left _ m2⟩

theorem turns_count {b : Int} (h1 : -1 ≤ b) (h2 : b ≤ 5) : ∃ n : Nat, Builtin.Range.rangeSize 0 b 2 = (n : Int) ∧ Builtin.Range.small 0 b 2 = true ∧ ∀ i : Nat, i < n → 2 * (i : Int) + 1 ≤ b := by
  have h : b = -1 ∨ b = 0 ∨ b = 1 ∨ b = 2 ∨ b = 3 ∨ b = 4 ∨ b = 5 := by omega
  rcases h with rfl | rfl | rfl | rfl | rfl | rfl | rfl
  · exact ⟨0, by decide +kernel, by decide +kernel, fun i hi => by omega⟩
  · exact ⟨0, by decide +kernel, by decide +kernel, fun i hi => by omega⟩
  · exact ⟨1, by decide +kernel, by decide +kernel, fun i hi => by omega⟩
  · exact ⟨1, by decide +kernel, by decide +kernel, fun i hi => by omega⟩
  · exact ⟨2, by decide +kernel, by decide +kernel, fun i hi => by omega⟩
  · exact ⟨2, by decide +kernel, by decide +kernel, fun i hi => by omega⟩
  · exact ⟨3, by decide +kernel, by decide +kernel, fun i hi => by omega⟩

/-- the invariant of the outer loop -/
def J0 (L sl I : Addr) (_ : Nat) (m : Str → Option Value) (news : List (Addr × Obj)) : Prop :=
  ∃ o1 o2 o3 v1 v2 v3 tl, news = (L + 1 + 1 + 1, o3) :: (L + 1 + 1, o2) :: (L + 1, o1) :: tl ∧ o1.data = .cell v1 ∧ o2.data = .cell v2 ∧ o3.data = .cell v3 ∧ Tabs tl ∧ OwnOff tl [I, L + 1 + 1 + 1, L + 1 + 1, L + 1] ∧ m (Str.ofString "script") = some (.ref sl)

section
variable {w : World} {p : Program} {loose : List Str} {mean : ExcName → Option Value} {mg mb : Str → Option Value}
theorem outer {scope : Scope} {body : List Stmt} (hlaw : lawFor = some (scope, body)) {base h₀ : Heap} {L fa sl r : Addr} {cd : Value} {m : Str → Option Value} {s : Shared}
    {Q : Flow → Shared → Prop} {E : Value → Shared → Prop} {svs : List Value} {sns : List Int} {b₀ : Int} {t₀ u₀ v₀ : Tok} {o1 o2 o3 : Obj} {v1 v2 v3 : Option Value} {tl : List (Addr × Obj)}
    (B : Below callerA base [] h₀) (X : (hd.heap_39 w.params).In h₀) (T : Top p loose mean mg mb h₀) (C1 : CodeHd h₀ 41 37) (C2 : CodeHd h₀ 34 30)
    (F : Fr h₀ L s.heap m) (N : News h₀ L s.heap ((L + 1 + 1 + 1, o3) :: (L + 1 + 1, o2) :: (L + 1, o1) :: tl)) (ht : Tabs tl) (hoff : OwnOff tl [L + 1 + 1 + 1, L + 1 + 1, L + 1])
    (d1 : o1.data = .cell v1) (d2 : o2.data = .cell v2) (d3 : o3.data = .cell v3)
    (hsl : h₀.IsList sl svs.toArray) (hsn : IntsAre svs sns) (hl63 : sns.length ≤ 63) (hb1 : -1 ≤ b₀) (hb2 : b₀ ≤ 5) (hb3 : b₀ < sns.length)
    (hR : IsRange s.heap r 0 b₀ 2 t₀ u₀ v₀) (e1 : m (Str.ofString "script") = some (.ref sl))
    (fin : ∀ h' tk' m' p1 p2, Fr h₀ L h' m' → News h₀ L h' [(37, tabObj p1), (30, tabObj p2)] → Q .next { s with heap := h', toks := tk' }) :
    wpAny (model PROG w) (callerA.deeper (envOfC (Str.ofString "law") scope L fa cd)) (pyIter (.ref r))
      (fun it s₂ => LoopAtV PROG w (callerA.deeper (envOfC (Str.ofString "law") scope L fa cd)) h₀ (envOfC (Str.ofString "law") scope L fa cd) (Str.ofString "k") body Q E it s₂) E s := by
  obtain ⟨n, hn, hsm, hni⟩ := turns_count hb1 hb2
  refine krs_loop (env := envOfC (Str.ofString "law") scope L fa cd) (n := n) (fun I i m2 news => J0 L sl I i m2 news) rfl hR hsm hn F N ?hj ?step ?done
  case hj =>
    intro I lt
    refine ⟨o1, o2, o3, v1, v2, v3, tl, rfl, d1, d2, d3, ht, ?_, e1⟩
    intro q hq x hx
    rcases List.mem_cons.mp hx with rfl | hx
    · exact Nat.ne_of_lt (lt q (.tail _ (.tail _ (.tail _ hq))))
    · exact hoff q hq x hx
  case step =>
    intro I i t m2 news2 h2 tk2 hi hJ hoI F2 N2
    obtain ⟨a1, a2, a3, w1, w2, w3, tl2, rfl, f1, f2, f3, ht2, hoff2, e2⟩ := hJ
    have hk : 0 + (i : Int) * 2 = ((2 * i : Nat) : Int) := by omega
    rw [hk] at F2
    have hi2 := hni i hi
    have N3 : News h₀ L h2 ((L + 1 + 1 + 1, a3) :: (L + 1 + 1, a2) :: (L + 1, a1) :: (tl2 ++ [(I, krsIt (0 + ((i + 1 : Nat) : Int) * 2) ((n : Int) - ((i + 1 : Nat) : Int)) 2)])) := by
      refine cb_drop N2 ?_
      intro q hq
      simp only [List.mem_cons, List.mem_append, List.not_mem_nil, or_false] at hq ⊢
      rcases hq with h | h | h | h | h <;> simp only [h, true_or, or_true]
    refine wpAny_mono (turn (k := 2 * i) (rest := [(I, krsIt (0 + ((i + 1 : Nat) : Int) * 2) ((n : Int) - ((i + 1 : Nat) : Int)) 2)]) hlaw B F2 X T C1 C2 N3 ht2 ?hoff3 ?htr3 f1 f2 f3 hsl hsn hl63 (by omega) ((if_neg (by decide)).trans e2) (if_pos rfl) ?hQ3) (fun _ _ x => x) fun _ _ x => x.elim
    case hoff3 =>
      intro q hq x hx
      rcases List.mem_append.mp hq with hq | hq
      · exact hoff2 q hq x (.tail _ hx)
      · rw [List.mem_singleton.mp hq]
        simp only [List.mem_cons, List.not_mem_nil, or_false] at hx
        rcases hx with rfl | rfl | rfl
        · exact fun e => hoI _ (.head _) e.symm
        · exact fun e => hoI _ (.tail _ (.head _)) e.symm
        · exact fun e => hoI _ (.tail _ (.tail _ (.head _))) e.symm
    case htr3 =>
      intro q hq r hr
      rw [List.mem_singleton.mp hr]
      exact hoff2 q hq _ (.head _)
    case hQ3 =>
      intro h' tk' m' tl' o1' o2' o3' v1' v2' v3' g1 g2 g3 F' N' ht' hoff' htr' e'
      refine turn_end ((L + 1 + 1 + 1, o3') :: (L + 1 + 1, o2') :: (L + 1, o1') :: tl') F' N' ?_ ?_ ⟨o1', o2', o3', v1', v2', v3', tl', rfl, g1, g2, g3, ht', ?_, e'⟩
      · intro q hq
        simp only [List.mem_cons, List.mem_append, List.not_mem_nil, or_false] at hq ⊢
        rcases hq with h | h | h | h | h <;> simp only [h, true_or, or_true]
      · intro q hq
        simp only [List.mem_cons] at hq
        rcases hq with rfl | rfl | rfl | h
        · exact hoI (_, a3) (.head _)
        · exact hoI (_, a2) (.tail _ (.head _))
        · exact hoI (_, a1) (.tail _ (.tail _ (.head _)))
        · exact htr' q h _ (.head _)
      · intro q hq x hx
        rcases List.mem_cons.mp hx with rfl | hx
        · exact htr' q hq _ (.head _)
        · exact hoff' q hq x hx
  case done =>
    intro I m2 news2 h2 tk2 hJ F2 N2
    obtain ⟨a1, a2, a3, w1, w2, w3, tl2, rfl, f1, f2, f3, ht2, hoff2, e2⟩ := hJ
    obtain ⟨p1, p2, m1, m2'⟩ := ht2.grown
    refine fin h2 tk2 m2 p1 p2 F2 (cb_drop N2 ?_)
    intro q hq
    simp only [List.mem_cons, List.not_mem_nil, or_false] at hq
    rcases hq with rfl | rfl
    · exact .tail _ (.tail _ (.tail _ m1))
    · exact .tail _ (.tail _ (.tail _ m2'))
end
end Mine

namespace Mine
local macro_rules | `(tactic| walk_at "pyIter ref") => `(tactic| refine Stop.go ?_)
local macro_rules | `(tactic| walk_at "exec For Name Call cons nil") => `(tactic| (k_here; (rename Fr _ _ _ _ => lF'); (with_unfolding_all refine' For_invVF lF' ?k1 ?k2 ?_; (case k1 => exact rfl); (case k2 => exact rfl); k_whole)))
theorem swap2 {h₀ h : Heap} {L : Addr} {a b c x y : Addr × Obj} (N : News h₀ L h [a, b, c, x, y]) : News h₀ L h (a :: b :: c :: [y, x]) := by
  refine cb_drop N ?_
  intro q hq
  simp only [List.mem_cons, List.not_mem_nil, or_false] at hq
  rcases hq with rfl | rfl | rfl | rfl | rfl
  · exact .head _
  · exact .tail _ (.head _)
  · exact .tail _ (.tail _ (.head _))
  · exact .tail _ (.tail _ (.tail _ (.tail _ (.head _))))
  · exact .tail _ (.tail _ (.tail _ (.head _)))
theorem tabs0 : Tabs [(30, tabObj #[]), (37, tabObj #[])] := ⟨[(30, tabObj #[])], [(37, tabObj #[])], rfl, .empty, .empty, fun p hp q hq => by rw [List.mem_singleton.mp hp, List.mem_singleton.mp hq]; decide⟩
theorem law_holds : PySem.Challenge.rw_zt0003_01.Holds := hd (by
  w_strict (
    w_top off
    k_go0
    (try dsimp only)
    k_steps
    rename IsRange _ _ _ _ _ _ _ _ => hR
    rename Fr _ _ _ _ => F9
    rename News _ _ _ _ => N9
    rename _ < _ ∧ _ < _ => lt9
    rename IntsAre _ _ => hI9
    rename ¬ _ < _ => hc9
    refine Stop.mk ?_
    refine outer (tl := [(30, tabObj #[]), (37, tabObj #[])]) (by with_unfolding_all rfl) (by assumption) (by assumption) (by assumption) (by assumption) (by assumption) F9 (swap2 N9) tabs0 ?hoff (by assumption) (by assumption) (by assumption) (by assumption) hI9 (by omega) (by split <;> omega) (by split <;> omega) (by split <;> omega) hR rfl ?fin
    case hoff =>
      obtain ⟨z37, z30⟩ := lt9
      intro q hq x hx
      simp only [List.mem_cons, List.not_mem_nil, or_false] at hq hx
      rcases hq with rfl | rfl <;> rcases hx with rfl | rfl | rfl
      · exact Nat.ne_of_lt (Nat.lt_succ_of_lt (Nat.lt_succ_of_lt (Nat.lt_succ_of_lt z30)))
      · exact Nat.ne_of_lt (Nat.lt_succ_of_lt (Nat.lt_succ_of_lt z30))
      · exact Nat.ne_of_lt (Nat.lt_succ_of_lt z30)
      · exact Nat.ne_of_lt (Nat.lt_succ_of_lt (Nat.lt_succ_of_lt (Nat.lt_succ_of_lt z37)))
      · exact Nat.ne_of_lt (Nat.lt_succ_of_lt (Nat.lt_succ_of_lt z37))
      · exact Nat.ne_of_lt (Nat.lt_succ_of_lt z37)
    case fin =>
      intro h' tk' m' p1 p2 F10 N10
      k_steps))
end Mine

set_option maxRecDepth 100000 in
set_option maxHeartbeats 8000000 in
theorem PySem.Challenge.cw_zt0003_01_holds : PySem.Challenge.rw_zt0003_01.Holds := by
  exact Mine.law_holds
