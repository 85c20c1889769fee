import PyProof.Rows.All
import Wide.All
import OpenK.AllK
import Wide.FinOn
import Lean
import PySem.Challenge.RW_aj5033_01
open PySem PySem.W PyProof.Rows
set_option Elab.async false
set_option maxRecDepth 100000
set_option maxHeartbeats 8000000
set_option linter.unusedVariables false

/-! DHead -/
namespace Mine
open_top hd for PySem.Challenge.rw_aj5033_01
end Mine

/-! D1 -/
namespace Mine
theorem fresh_D1 : True := by
  w_top off
  exact True.intro
open PySem.Spec PySem.Calls
abbrev Claim (w : World) (f : Addr) (vs : List Value) (news : List (Addr × Obj)) (R : Tok → Value) : Prop :=
  ∀ (p : Program) (loose : List Str) (mean : ExcName → Option Value) (mg mb : Str → Option Value) (dp un : Nat) (gd : Option (List Code)) (cn : Str) (cs : Scope) (a : Addr) (ccd : Value) (cl : List (Str × Addr)) (outer : List Env) (A₀ : Around) (base h₀ : Heap) (L : Addr) (m : Str → Option Value) (s : Shared) (Q E : Value → Shared → Prop),
    Below A₀ base outer h₀ → Fr h₀ L s.heap m → (hd.heap_39 w.params).In h₀ → News h₀ L s.heap news → Top p loose mean mg mb h₀ → cs.kind = .function →
      dp + 1 < recursionLimit → un + 8 < cLine → CbRet h₀ L m news s Q R →
      wpAny (model PySem.Challenge.rw_aj5033_01.row.prog w) (ktrTop dp un gd cn cs L a ccd cl outer) (call (.ref f) vs) Q E s

/-- a tuple walked by a for: an invariant over the turn's number -/
theorem iter_tupN {prog : Program} {w : World} {A : Around} {E : Value → Shared → Prop} {s : Shared} {env : Env} {h₀ : Heap} {x : Str} {body : List Stmt} {Q : Flow → Shared → Prop} {t : Addr} {items : Array Value} {m₀ : Str → Option Value} {news : List (Addr × Obj)}
    (J : Nat → (Str → Option Value) → List (Addr × Obj) → Prop)
    (hh : A.handled = none) (ht : h₀.IsTuple t items) (F : Fr h₀ env.locals s.heap m₀) (N : News h₀ env.locals s.heap news) (hj : J 0 m₀ news)
    (turn : ∀ i v m₁ news₁ h tk own, i < items.size → items[i]? = some v → news₁.map (·.1) = news.map (·.1) → OwnOff own (news.map (·.1)) → J i m₁ news₁ → Fr h₀ env.locals h (fun y => if y = x then some v else m₁ y) → News h₀ env.locals h (news₁ ++ own) →
      wpAny (model prog w) A (execs body env) (InvPostN h₀ env.locals (J (i + 1)) own (news.map (·.1)) { s with heap := h, toks := tk } Q) E { s with heap := h, toks := tk })
    (done : ∀ m₁ news₁ h tk, J items.size m₁ news₁ → Fr h₀ env.locals h m₁ → News h₀ env.locals h news₁ → Q .next { s with heap := h, toks := tk }) :
    wpAny (model prog w) A (pyIter (.ref t)) (fun it s₂ => LoopAtV prog w A h₀ env x body Q E it s₂) E s := by
  have hts : s.heap.IsTuple t items := let ⟨o, ho, r⟩ := ht; ⟨o, F.keep t o ho, r⟩
  obtain ⟨ot, hot, _⟩ := id ht
  have hlt : t < h₀.objs.size := Heap.lt_size hot
  have hne : t ≠ s.heap.objs.size := Nat.ne_of_lt (Nat.lt_trans (Nat.lt_of_lt_of_le hlt F.above) F.ns.lt)
  refine wpAny_pyIter_tuple hts ?_
  have W := Walks.tuple (prog := prog) (w := w) hh s.heap.objs.size t hne items
  refine loop_invN (s := { s with heap := s.heap.push { cls := .type "tuple_iterator", data := .fields #[.ref t, .int 0 0] } }) J W ?_ ?_ ?_ ?_ ⟨⟨_, Heap.get?_push_size _ rfl, rfl, rfl⟩, hts.push _⟩ (F.push _) (fun p hp => ⟨Heap.get?_push_of_some _ (N p hp).1, (N p hp).2⟩) hj (fun i v m₁ n₁ h tk own a b c d e f g => turn i v m₁ n₁ h tk own a b c d e f g) done
  · intro hm
    rcases List.mem_cons.mp hm with e | hm
    · exact absurd F.ns.lt (e ▸ Nat.lt_irrefl _)
    · exact absurd (Nat.lt_of_lt_of_le hlt F.above) ((List.mem_singleton.mp hm) ▸ Nat.lt_irrefl _)
  · intro b hb
    rw [List.mem_singleton.mp hb]
    exact next_is_new F
  · intro p hp hI
    exact absurd (Heap.lt_size (N p hp).1) ((List.mem_singleton.mp hI) ▸ Nat.lt_irrefl _)
  · intro q hq hm
    rcases List.mem_cons.mp hm with e | hm
    · exact absurd (Heap.lt_size (N q hq).1) (by rw [e]; exact Nat.lt_irrefl _)
    · have h3 := (N q hq).2.2
      rw [List.mem_singleton.mp hm, hot] at h3
      cases h3
end Mine

/-! D2 -/
namespace Mine
local macro_rules | `(tactic| walk_at "idle D2 0") => `(tactic| fail "idle")
theorem fresh_D2 : True := by
  w_top off
  exact True.intro
open PySem.Spec PySem.Calls
theorem and_nat (a b : Nat) : Builtin.bitAnd (a : Int) (b : Int) = ((a &&& b : Nat) : Int) := by
  unfold Builtin.bitAnd
  simp
theorem not_nat (a : Nat) : ¬ (0 ≤ Builtin.bitNot (a : Int)) := by unfold Builtin.bitNot; omega
theorem not_not (a : Int) : Builtin.bitNot (Builtin.bitNot a) = a := by unfold Builtin.bitNot; omega
theorem or_nat (a b : Nat) : Builtin.bitOr (a : Int) (b : Int) = ((a ||| b : Nat) : Int) := by
  unfold Builtin.bitOr
  unfold Builtin.bitAnd
  rw [decide_eq_false (not_nat a), decide_eq_false (not_nat b)]
  simp only [not_not, Int.toNat_natCast]
theorem or_eq (a b : Nat) : a ||| b = (a ^^^ b) + (a &&& b) := by
  induction a using Nat.strongRecOn generalizing b with
  | _ a ih =>
    by_cases h : a = 0
    · subst h; simp
    · have h2 : a / 2 < a := Nat.div_lt_self (Nat.pos_of_ne_zero h) (by decide)
      have e := ih (a / 2) h2 (b / 2)
      have e1 : (a ||| b) = 2 * ((a / 2) ||| (b / 2)) + (a ||| b) % 2 := by
        rw [← Nat.or_div_two]; omega
      have e2 : (a ^^^ b) = 2 * ((a / 2) ^^^ (b / 2)) + (a ^^^ b) % 2 := by
        rw [← Nat.xor_div_two]; omega
      have e3 : (a &&& b) = 2 * ((a / 2) &&& (b / 2)) + (a &&& b) % 2 := by
        rw [← Nat.and_div_two]; omega
      have e4 : (a ||| b) % 2 = (a ^^^ b) % 2 + (a &&& b) % 2 := by
        have o := @Nat.or_mod_two_eq_one a b
        have x := @Nat.xor_mod_two_eq_one a b
        have n := @Nat.and_mod_two_eq_one a b
        omega
      omega
theorem xor_nat (a b : Nat) : Builtin.bitXor (a : Int) (b : Int) = ((a ^^^ b : Nat) : Int) := by
  unfold Builtin.bitXor
  rw [or_nat, and_nat]
  have := or_eq a b
  omega
theorem shr_nat (a k : Nat) : (a : Int).fdiv (2 ^ k) = ((a >>> k : Nat) : Int) := by
  rw [Int.fdiv_eq_ediv_of_nonneg _ (Int.le_of_lt (kbt_pos k)), Nat.shiftRight_eq_div_pow]
  push_cast
  rfl
theorem shl_nat (a k : Nat) : (a : Int) * (2 ^ k) = ((a <<< k : Nat) : Int) := by
  rw [Nat.shiftLeft_eq]
  push_cast
  rfl

/-- one place of the table: what is got so far, the number left -/
def permStep (p : Nat × Nat) (row : List Nat) : Nat × Nat := (p.1 ||| row.getD (p.2 &&& 15) 0, p.2 >>> 4)
def permFold (rows : List (List Nat)) (c : Nat) : Nat × Nat := rows.foldl permStep (0, c)
def perm (rows : List (List Nat)) (c : Nat) : Nat := (permFold rows c).1

def zInts (l : List Nat) : List Int := l.map fun (n : Nat) => (n : Int)
theorem zInts_getD (l : List Nat) (i : Nat) : (zInts l).getD i 0 = ((l.getD i 0 : Nat) : Int) := by
  unfold zInts
  simp only [List.getD_eq_getElem?_getD, List.getElem?_map]
  cases l[i]? <;> rfl

/-- the rows stand at these places -/
inductive RowsAt (h : Heap) : List Addr → List (List Nat) → Prop
  | nil : RowsAt h [] []
  | cons {r : Addr} {row : List Nat} {rs : List Addr} {rows : List (List Nat)} {vs : List Value} (ht : IsTup h r vs.toArray) (hi : IntsAre vs (zInts row)) (hl : row.length = 16) (more : RowsAt h rs rows) : RowsAt h (r :: rs) (row :: rows)
theorem RowsAt.length {h : Heap} {rs : List Addr} {rows : List (List Nat)} (H : RowsAt h rs rows) : rs.length = rows.length := by
  induction H with
  | nil => rfl
  | cons _ _ _ _ ih => simp [ih]
theorem RowsAt.get {h : Heap} {rs : List Addr} {rows : List (List Nat)} (H : RowsAt h rs rows) : ∀ (i : Nat) (r : Addr), rs[i]? = some r → ∃ vs row, rows[i]? = some row ∧ row.length = 16 ∧ IntsAre vs (zInts row) ∧ IsTup h r vs.toArray := by
  induction H with
  | nil => intro i r e; cases e
  | cons ht hi hl _ ih =>
    intro i r e
    cases i with
    | zero => cases e; exact ⟨_, _, rfl, hl, hi, ht⟩
    | succ i => exact ih i r (by simpa using e)
structure TabAt (h : Heap) (tab : Addr) (rows : List (List Nat)) : Prop where
  rs : ∃ rs, h.IsTuple tab (rs.map Value.ref).toArray ∧ RowsAt h rs rows

theorem idx_lo (c : Nat) : (0 : Int) ≤ Builtin.bitAnd (c : Int) 15 := by
  have := and_nat c 15
  rw [show ((15 : Nat) : Int) = 15 from rfl] at this
  rw [this]; omega
theorem idx_nat (c : Nat) : Builtin.bitAnd (c : Int) 15 = ((c &&& 15 : Nat) : Int) := and_nat c 15
theorem idx_hi (c : Nat) : (c &&& 15) < 16 := Nat.lt_succ_of_le (Nat.and_le_right)

theorem item_row {prog : Program} {w : World} {A : Around} {E : Value → Shared → Prop} {s : Shared} {value slice : PySem.Expr} {l : Addr} {vs : List Value} {row : List Nat} {c : Nat} {u : Tok} {Q : Value → Shared → Prop} (ht : IsTup s.heap l vs.toArray) (hi : IntsAre vs (zInts row)) (hl : row.length = 16)
    (h : ∀ t, Q (.int ((row.getD (c &&& 15) 0 : Nat) : Int) t) s)
    (hs : subscripted slice false (.ref l) (.int (Builtin.bitAnd (c : Int) 15) u) = operate [.ref l, .int (Builtin.bitAnd (c : Int) 15) u] (getItem (.ref l) (.int (Builtin.bitAnd (c : Int) 15) u)) := by with_unfolding_all rfl) :
    wpAny (model prog w) A (subscriptTail value slice (.ref l) (.int (Builtin.bitAnd (c : Int) 15) u)) Q E s := by
  have hb := idx_hi c
  have hz : (zInts row).length = 16 := by unfold zInts; simp [hl]
  refine item_anyT ht hi (idx_lo c) (by rw [idx_nat, hz]; omega) (by rw [idx_nat]; omega) (fun t => ?_) hs
  rw [idx_nat, Int.toNat_natCast, zInts_getD]
  exact h t

local macro_rules | `(tactic| walk_at "subscriptTail") => `(tactic| (k_here; (with_reducible show wpAny _ _ (subscriptTail _ _ (Value.ref _) (Value.int (Builtin.bitAnd _ 15) _)) _ _ _); (with_unfolding_all refine' item_row ?k1 ?k2 ?k3 ?_); (case k1 => assumption); (case k2 => assumption); (case k3 => assumption); k_whole; intro _))

theorem fr_two {h₀ h : Heap} {L : Addr} {m₁ : Str → Option Value} {x a b : Str} {v va vb : Value} (F : Fr h₀ L h (fun y => if y = x then some v else m₁ y)) (ha : m₁ a = some va) (hb : m₁ b = some vb) :
    Fr h₀ L h (fun y => if y = x then some v else if y = a then some va else if y = b then some vb else m₁ y) := by
  have e : (fun y => if y = x then some v else m₁ y) = fun y => if y = x then some v else if y = a then some va else if y = b then some vb else m₁ y := by
    funext y
    by_cases h1 : y = x
    · simp [h1]
    · simp only [if_neg h1]
      by_cases h2 : y = a
      · subst h2; simp [ha]
      · simp only [if_neg h2]
        by_cases h3 : y = b
        · subst h3; simp [hb]
        · simp only [if_neg h3]
  exact e ▸ F
theorem fr_one {h₀ h : Heap} {L : Addr} {m₁ : Str → Option Value} {a : Str} {va : Value} (F : Fr h₀ L h m₁) (ha : m₁ a = some va) : Fr h₀ L h (fun y => if y = a then some va else m₁ y) := by
  have e : m₁ = fun y => if y = a then some va else m₁ y := by
    funext y
    by_cases h1 : y = a
    · subst h1; simp [ha]
    · simp only [if_neg h1]
  exact e ▸ F
theorem permFold_succ (rows : List (List Nat)) (c i : Nat) (row : List Nat) (h : rows[i]? = some row) : permFold (rows.take (i + 1)) c = permStep (permFold (rows.take i) c) row := by
  unfold permFold
  rw [List.take_add_one, h]; simp
theorem shr4 (c : Nat) : (c : Int).fdiv (2 ^ (4 : Int).toNat) = ((c >>> 4 : Nat) : Int) := shr_nat c 4

theorem perm_claim (w : World) (news : List (Addr × Obj)) (c : Nat) (tc : Tok) (tab : Addr) (rows : List (List Nat)) (hT : ∀ h, (hd.heap_39 w.params).In h → TabAt h tab rows) : Claim w 152 [.int c tc, .ref tab] news (fun t => .int (perm rows c : Nat) t) := by
  dsimp only [Claim, CbRet]
  k_fill
  intro p loose mean mg mb dp un gd cn cs a ccd cl outer A₀ base h₀ L m s Q E B F X N T hk hd hu hret
  refine wpAny_call ?_
  k_dflt cell_enter
  k_steps
  with_reducible rename Fr _ _ _ _ => F1
  with_reducible rename News _ _ _ _ => N1
  with_reducible rename Frag.In _ _ => X1
  obtain ⟨rs, hrs, hrows⟩ := (hT _ X1).rs
  refine For_invV _ rfl rfl (ld F1 (v := .ref tab) rfl (iter_tupN (fun i m nx => nx = news ∧ ∃ to tc, m "out" = some (.int ((permFold (rows.take i) c).1 : Nat) to) ∧ m "c" = some (.int ((permFold (rows.take i) c).2 : Nat) tc)) rfl hrs F1 N1 ⟨rfl, _, _, rfl, rfl⟩ ?_ ?_))
  · rintro i v m₁ news₁ h tk own hi hv hadr hsep ⟨rfl, to, tc, ho, hc⟩ F₂ N₂
    have hv' : ∃ r, rs[i]? = some r ∧ v = .ref r := by
      rw [List.getElem?_toArray, List.getElem?_map] at hv
      cases e : rs[i]? with
      | none => rw [e] at hv; cases hv
      | some r => rw [e] at hv; cases hv; exact ⟨r, rfl, rfl⟩
    obtain ⟨r, hr, rfl⟩ := hv'
    obtain ⟨vs, row, hrow, hlen, hints, htup⟩ := hrows.get i r hr
    have htup' : IsTup h r vs.toArray := htup.keeps F₂.keep
    have F₃ := fr_two F₂ ho hc
    clear F₂ F1 N1
    k_steps
    with_reducible rename Fr _ _ _ _ => F4
    with_reducible rename News _ _ _ _ => N4
    refine' InvEndN.intro F4 N4 (nx := news₁) ⟨rfl, ?t1, ?t2, ?e1, ?e2⟩ rfl (fun p hp => List.mem_append_left _ hp) (fun p hp => List.mem_append_right _ hp)
    case e1 =>
      rw [permFold_succ _ _ _ _ hrow, permStep, ← or_nat]
      rfl
    case e2 =>
      rw [permFold_succ _ _ _ _ hrow, permStep, ← shr4]
      rfl
  · rintro m₁ news₁ h tk ⟨rfl, to, tc, ho, hc⟩ F₂ N₂
    have F₃ := fr_one F₂ ho
    clear F₂ F1 N1
    have hsz : (List.map Value.ref rs).toArray.size = rows.length := by simp [hrows.length]
    rw [hsz, List.take_length] at F₃
    show wpAny _ _ _ _ _ _
    k_steps
    exact hret _ _ _ (by assumption) (by assumption)
end Mine

/-! D3 -/
namespace Mine
theorem fresh_D3 : True := by
  w_top off
  exact True.intro
open PySem.Spec PySem.Calls

/-- a def of the text, called: the walk of its body over a base g that the state extends -/
theorem enterG {prog : Program} {w : World} {A : Around} {s : Shared} {K : Frag} {R : Result → Shared → Prop} {g : Heap} {news : List (Addr × Obj)}
    {name qual : Str} {params : Arguments} {body : List Stmt} {scope : Scope} {dV kV doc pm cdv ct oc : Value} {an od : Option Addr} {osl : Array (Option Value)} {f : Addr} {args : Args} {binds : List (Str × Value)}
    (hg : ∀ b o, g.get? b = some o → s.heap.get? b = some o) (hsz : g.objs.size ≤ s.heap.objs.size) (N : ∀ q ∈ news, s.heap.get? q.1 = some q.2 ∧ g.get? q.1 = none)
    (X : K.In g) (hlim : g.NoLimit)
    (ho : K.lookup f = some ⟨oc, od, .func (fnOf name qual params body scope dV kV doc pm an cdv ct), osl⟩) (hcd : codeIn K cdv qual = true) (hroom : A.depth < recursionLimit)
    (hbind : BindsTo s (fnOf name qual params body scope dV kV doc pm an cdv ct) args binds) (hloc : ∀ y ∈ binds, scope.names.lookup y.1 = some .local)
    (h : ∀ h₁, Fr g s.heap.objs.size h₁ (fun y => binds.reverse.lookup y) → News g s.heap.objs.size h₁ news →
      wpAny (model prog w) (A.deeper (envOf qual scope s.heap.objs.size f cdv)) (execs body (envOf qual scope s.heap.objs.size f cdv))
        (fun fl s' => R (.ok (.ret (match fl with | .ret v => v | _ => .none))) s')
        (fun e s' => wpAny (model prog w) (A.deeper (envOf qual scope s.heap.objs.size f cdv)) (leaving (envOf qual scope s.heap.objs.size f cdv) e) (fun _ s'' => R (.error e) s'') (fun e' s'' => R (.error e') s'') s')
        { s with heap := h₁, toks := s.toks + binds.length })
    (hco : scope.isCoroutine = false) (hgen : scope.isGenerator = false) (hk : scope.kind = .function) (hcell : ∀ x ∈ scope.names, x.2 ≠ .cell) :
    codeAny (model prog w) A (.call (.ref f) args) R s := by
  have Xs : K.In s.heap := fun a o e => hg _ _ (X a o e)
  refine codeAny_call_def (fd := fnOf name qual params body scope dV kV doc pm an cdv ct) (body := body) (binds := binds) hroom (Xs _ _ ho) rfl (hlim.keeps hg) (codeRec_of Xs hcd) rfl hbind hcell hloc (fun h₁ hns hk₁ => ?_) hco hgen hk
  exact h h₁ ⟨hns, fun b o e => hk₁ b o (hg b o e), hsz⟩ fun q hq => ⟨hk₁ _ _ (N q hq).1, Nat.ne_of_lt (Heap.lt_size (N q hq).1), (N q hq).2⟩

/-- a call that only adds to the heap, and what it hands back -/
abbrev Gro (w : World) (d : Nat) (f : Addr) (vs : List Value) (V : Tok → Value) : Prop :=
  ∀ (p : Program) (loose : List Str) (mean : ExcName → Option Value) (mg mb : Str → Option Value) (A : Around) (s : Shared) (R : Result → Shared → Prop),
    A.handled = none → A.depth + d < recursionLimit → (hd.heap_39 w.params).In s.heap → Top p loose mean mg mb s.heap →
    (∀ (t : Tok) (h' : Heap) (tk' : Nat), (∀ b o, s.heap.get? b = some o → h'.get? b = some o) → R (.ok (.ret (V t))) { s with heap := h', toks := tk' }) →
    codeAny (model PySem.Challenge.rw_aj5033_01.row.prog w) A (.call (.ref f) ⟨vs, []⟩) R s

theorem Fr.grow {h₀ h h' : Heap} {L : Addr} {m : Str → Option Value} (F : Fr h₀ L h m) (k : ∀ b o, h.get? b = some o → h'.get? b = some o) : Fr h₀ L h' m :=
  ⟨F.ns.keeps k, fun b o e => k _ _ (F.keep b o e), F.above⟩
theorem News.grow {h₀ h h' : Heap} {L : Addr} {news : List (Addr × Obj)} (N : News h₀ L h news) (k : ∀ b o, h.get? b = some o → h'.get? b = some o) : News h₀ L h' news :=
  fun q hq => ⟨k _ _ (N q hq).1, (N q hq).2⟩

/-- such a call within a def's own walk -/
theorem gro_use {w : World} {d : Nat} {f : Addr} {vs : List Value} {V : Tok → Value} (C : Gro w d f vs V) {p : Program} {loose : List Str} {mean : ExcName → Option Value} {mg mb : Str → Option Value}
    {A : Around} {s : Shared} {h₀ : Heap} {L : Addr} {m : Str → Option Value} {news : List (Addr × Obj)} {Q E : Value → Shared → Prop}
    (hh : A.handled = none) (hdp : A.depth + d < recursionLimit) (F : Fr h₀ L s.heap m) (N : News h₀ L s.heap news) (X : (hd.heap_39 w.params).In h₀) (T : Top p loose mean mg mb h₀)
    (h : ∀ (t : Tok) (h' : Heap) (tk' : Nat), Fr h₀ L h' m → News h₀ L h' news → Q (V t) { s with heap := h', toks := tk' }) :
    wpAny (model PySem.Challenge.rw_aj5033_01.row.prog w) A (call (.ref f) vs) Q E s :=
  wpAny_call (C p loose mean mg mb A s _ hh hdp (X.keeps F.keep) (T.keeps F.keep) fun t h' tk' k => h t h' tk' (Fr.grow F k) (News.grow N k))

local macro_rules | `(tactic| walk_at "subscriptTail") => `(tactic| (k_here; (with_reducible show wpAny _ _ (subscriptTail _ _ (Value.ref _) (Value.int (Builtin.bitAnd _ 15) _)) _ _ _); (with_unfolding_all refine' item_row ?k1 ?k2 ?k3 ?_); (case k1 => assumption); (case k2 => assumption); (case k3 => assumption); k_whole; intro _))
local macro_rules | `(tactic| cell_enter) => `(tactic| (refine' enterG (news := []) (fun _ _ e => e) (Nat.le_refl _) (fun _ hq => nomatch hq) ?k3 ?k4 ?k6 ?k7 ?k8 ?k9 ?kB ?_ ?c2 ?c3 ?c4 ?c5; (case k3 => assumption); (case k4 => exact Top.nolimit (by assumption)); (case k6 => k_is); (case k7 => k_is); (case k8 => omega); (case k9 => first | exact BindsTo.of_eq rfl | exact binds_K (by k_in) rfl (by k_is) rfl rfl rfl); (case c5 => decide); (case kB => exact locs rfl); (case c2 => exact rfl); (case c3 => exact rfl); (case c4 => exact rfl); k_whole; intro h' F' N'; (try dsimp only); (try k_fold)))

theorem perm_gro (w : World) (c : Nat) (tc : Tok) (tab : Addr) (rows : List (List Nat)) (hT : ∀ h, (hd.heap_39 w.params).In h → TabAt h tab rows) : Gro w 1 152 [.int c tc, .ref tab] (fun t => .int (perm rows c : Nat) t) := by
  dsimp only [Gro]
  k_fill
  intro p loose mean mg mb A s R hh hdp X T hret
  k_dflt cell_enter
  k_steps
  with_reducible rename Fr _ _ _ _ => F1
  with_reducible rename News _ _ _ _ => N1
  obtain ⟨rs, hrs, hrows⟩ := (hT _ X).rs
  refine For_invV _ rfl rfl (ld F1 (v := .ref tab) rfl (iter_tupN (fun i m nx => nx = [] ∧ ∃ to tc, m "out" = some (.int ((permFold (rows.take i) c).1 : Nat) to) ∧ m "c" = some (.int ((permFold (rows.take i) c).2 : Nat) tc)) hh hrs F1 N1 ⟨rfl, _, _, rfl, rfl⟩ ?_ ?_))
  · rintro i v m₁ news₁ h tk own hi hv hadr hsep ⟨rfl, to, tc, ho, hc⟩ F₂ N₂
    have hv' : ∃ r, rs[i]? = some r ∧ v = .ref r := by
      rw [List.getElem?_toArray, List.getElem?_map] at hv
      cases e : rs[i]? with
      | none => rw [e] at hv; cases hv
      | some r => rw [e] at hv; cases hv; exact ⟨r, rfl, rfl⟩
    obtain ⟨r, hr, rfl⟩ := hv'
    obtain ⟨vs, row, hrow, hlen, hints, htup⟩ := hrows.get i r hr
    have htup' : IsTup h r vs.toArray := htup.keeps F₂.keep
    have F₃ := fr_two F₂ ho hc
    clear F₂ F1 N1
    k_steps
    with_reducible rename Fr _ _ _ _ => F4
    with_reducible rename News _ _ _ _ => N4
    refine' InvEndN.intro F4 N4 (nx := []) ⟨rfl, ?t1, ?t2, ?e1, ?e2⟩ rfl (fun p hp => List.mem_append_left _ hp) (fun p hp => List.mem_append_right _ hp)
    case e1 =>
      rw [permFold_succ _ _ _ _ hrow, permStep, ← or_nat]
      rfl
    case e2 =>
      rw [permFold_succ _ _ _ _ hrow, permStep, ← shr4]
      rfl
  · rintro m₁ news₁ h tk ⟨rfl, to, tc, ho, hc⟩ F₂ N₂
    have F₃ := fr_one F₂ ho
    clear F₂ F1 N1
    have hsz : (List.map Value.ref rs).toArray.size = rows.length := by simp [hrows.length]
    rw [hsz, List.take_length] at F₃
    show wpAny _ _ _ _ _ _
    k_steps

    exact hret _ _ _ (by exact Fr.keep (by assumption))
end Mine

/-! D4 -/
namespace Mine
theorem fresh_D4 : True := by
  w_top off
  exact True.intro
open PySem.Spec PySem.Calls

section
variable {M : Model} {A : Around} {R : GenEnd} {Y : Protocol} {n : Nat} {s₀ : Shared} {c : Code} {fs : List Frame} {s : Shared} {env : Env}
  {K : Flow → Sem Fin} {H : Value → Sem Fin} {gd : Bool → Bool} {lv : List Value → List Value}
theorem seg_For {target iter : Expr} {body orelse : List Stmt} {pos : Pos}
    (h : wpAny M (A.over c fs) (eval iter env) (fun x s₁ => wpAny M (A.over c fs) (pyIter x) (fun it s₂ =>
      ∀ p, Seg M A R Y n s₀ (.forLoop target it body orelse env) (M.den (.forLoop target it body orelse env))
        (.ret (fun r => ((match r with | .ok f => (.pure f : Sem Flow) | .error e => .raise e).onRaise fun (x : Value) => do
          if (← field x 1) == Value.none then unsupported "frame.own-activation:exception-without-traceback"
          setFlight x env.frame).wrap K H gd lv) none (gd false) (lv []) c p [] :: fs) s₂) (fun _ _ => False) s₁) (fun _ _ => False) s)
    (hs : ∀ x, foldedSetIterable iter env x = pure x := by intro _; rfl) :
    Seg M A R Y n s₀ c ((exec (.For target iter body orelse pos) env).wrap K H gd lv) fs s := by
  rw [exec_For]
  refine seg_bind_wrap (wpAny_standAt ?_)
  refine seg_bind_wrap (wpAny_mono h (fun x s₁ h₁ => ?_) fun _ _ e => e.elim)
  refine seg_bind_wrap (wpAny_of_eq (hs x) ?_)
  refine seg_bind_wrap (wpAny_standAt ?_)
  refine seg_bind_wrap (wpAny_holding (wpAny_mono h₁ (fun it s₂ h₂ => ?_) fun _ _ e => e.elim))
  exact seg_call h₂
end
section
variable {prog : Program} {w : World} {A : Around} {R : GenEnd} {Y : Protocol} {n : Nat} {s₀ : Shared} {fs : List Frame} {s : Shared} {env : Env}
theorem seg_forLoop {target : Expr} {it : Value} {body : List Stmt}
    (h : wpAny (model prog w) (A.over (.forLoop target it body [] env) fs) (pyNext it) (fun r s₁ => match r with
      | none => Seg (model prog w) A R Y n s₀ (.block [] env) (.pure (.done .next)) fs s₁
      | some v => wpAny (model prog w) (A.over (.forLoop target it body [] env) fs) (letOwnedTupleGo target it v) (fun _ s₂ =>
          wpAny (model prog w) (A.over (.forLoop target it body [] env) fs) (assign target env v) (fun _ s₃ =>
            Seg (model prog w) A R Y n s₀ (.forLoop target it body [] env) ((execs body env).wrap (fun f => match f with
              | .next | .cont => .pure (.again (.forLoop target it body [] env))
              | .brk => .pure (.done .next)
              | .ret v => .pure (.done (.ret v))) (fun e => (do noteFrame e env; theTreesLotGoes e : Sem Unit).wrap (fun _ => .raise e) .raise id id) id id) fs s₃) (fun _ _ => False) s₂) (fun _ _ => False) s₁) (fun _ _ => False) s) :
    Seg (model prog w) A R Y n s₀ (.forLoop target it body [] env) ((model prog w).den (.forLoop target it body [] env)) fs s := by
  show Seg _ A R Y n s₀ _ ((forTurn target it body [] env).onRaise (fun x => do noteFrame x env; theTreesLotGoes x)) fs s
  unfold forTurn
  rw [Sem.onRaise_eq_wrap]
  refine seg_bind_wrap (wpAny_standAt ?_)
  refine seg_bind_wrap (wpAny_onRaise (wpAny_mono h (fun r s₁ h₁ => ?_) fun _ _ e => e.elim))
  cases r with
  | none => exact seg_again rfl h₁
  | some v =>
    refine seg_bind_wrap (wpAny_mono h₁ (fun _ s₂ h₂ => ?_) fun _ _ e => e.elim)
    refine seg_bind_wrap (wpAny_mono h₂ (fun _ s₃ h₃ => ?_) fun _ _ e => e.elim)
    rw [Sem.bind_eq_wrap', Sem.wrap_wrap]
    rw [Sem.wrap_congr (execs body env) _ _ (K' := fun f => match f with
            | .next | .cont => .pure (.again (.forLoop target it body [] env))
            | .brk => .pure (.done .next)
            | .ret v => .pure (.done (.ret v))) (H' := (fun e => (do noteFrame e env; theTreesLotGoes e : Sem Unit).wrap (fun _ => .raise e) .raise id id))
        (fun f => by cases f <;> rfl)
        (fun e => by first | exact Sem.bind_eq_wrap _ _ | (show (do noteFrame e env; theTreesLotGoes e : Sem Unit).bind (fun _ => .raise e) = _; rw [Sem.bind_eq_wrap]))]
    exact h₃
end
end Mine

/-! D5 -/
namespace Mine
local macro_rules | `(tactic| walk_at "idle D5 0") => `(tactic| fail "idle")
theorem fresh_D5 : True := by
  w_top off
  exact True.intro
open PySem.Spec PySem.Calls

/-- the number that goes into turn j of the schedule -/
def oddAt (ps : List (List (List Nat) × List (List Nat))) (k : Nat) : Nat → Nat
  | 0 => k
  | j + 1 => perm (ps.getD j ([], [])).2 (perm (ps.getD j ([], [])).1 (oddAt ps k j))
def evenAt (ps : List (List (List Nat) × List (List Nat))) (k j : Nat) : Nat := perm (ps.getD j ([], [])).1 (oddAt ps k j)
def ksMask : Nat := 18229723555245850623
def ksE (ps : List (List (List Nat) × List (List Nat))) (k j : Nat) : Nat := evenAt ps k j &&& ksMask
def ksO (ps : List (List (List Nat) × List (List Nat))) (k j : Nat) : Nat := oddAt ps k (j + 1) &&& ksMask

abbrev gScope : Scope := { kind := .function, names := [(Str.ofString "ks_odd", .local), (Str.ofString "p_even", .local), (Str.ofString "p_odd", .local), (Str.ofString "ks_even", .local), (Str.ofString "PCXROT", .globalImplicit), (Str.ofString "_permute", .globalImplicit), (Str.ofString "_KS_MASK", .globalImplicit)], isGenerator := true, isCoroutine := false }
abbrev gEnv (q : Str) (L f : Addr) (cd : Value) : Env := envOf q gScope L f cd
section
variable (q1 q2 q3 q4 q5 q6 q7 q8 q9 q10 q11 q12 q13 q14 q15 q16 q17 q18 q19 q20 q21 q22 q23 q24 q25 : Pos)
abbrev gTarget : Expr := .Tuple [.Name "p_even" q1, .Name "p_odd" q2] 0 q3
abbrev gOne : Stmt := .Assign [.Name "ks_even" q4] (.Call (.Name "_permute" q5) [.Name "ks_odd" q6, .Name "p_even" q7] [] q8) q9
abbrev gTwo : Stmt := .Assign [.Name "ks_odd" q10] (.Call (.Name "_permute" q11) [.Name "ks_even" q12, .Name "p_odd" q13] [] q14) q15
abbrev gPair : Expr := .Tuple [.BinOp (.Name "ks_even" q16) .BitAnd (.Name "_KS_MASK" q17) q18, .BinOp (.Name "ks_odd" q19) .BitAnd (.Name "_KS_MASK" q20) q21] 0 q22
abbrev gYield : Stmt := .Expr (.Yield (some (gPair q16 q17 q18 q19 q20 q21 q22)) q23) q24
end

/-- all that stands beside a base and one place -/
def allNews (b : Heap) (L : Addr) (h : Heap) : List (Addr × Obj) :=
  (List.range h.objs.size).filterMap fun a => if a = L then none else match b.get? a, h.get? a with
    | none, some o => some (a, o)
    | _, _ => none
theorem allNews_ok (b : Heap) (L : Addr) (h : Heap) : News b L h (allNews b L h) := by
  intro p hp
  obtain ⟨a, _, e⟩ := List.mem_filterMap.mp hp
  by_cases hL : a = L
  · rw [if_pos hL] at e; cases e
  · rw [if_neg hL] at e
    cases h1 : b.get? a with
    | some o => rw [h1] at e; cases e
    | none =>
      cases h2 : h.get? a with
      | none => rw [h1, h2] at e; cases e
      | some o => rw [h1, h2] at e; cases e; exact ⟨h2, hL, h1⟩
theorem allNews_mem {b : Heap} {L : Addr} {h : Heap} {a : Addr} {o : Obj} (e : h.get? a = some o) (hL : a ≠ L) (hb : b.get? a = none) : (a, o) ∈ allNews b L h := by
  refine List.mem_filterMap.mpr ⟨a, List.mem_range.mpr (Heap.lt_size e), ?_⟩
  rw [if_neg hL, hb, e]
theorem allNews_keep {b : Heap} {L : Addr} {h h' : Heap} {m m' : Str → Option Value} {more : List (Addr × Obj)} (F : Fr b L h m) (F' : Fr b L h' m') (N : News b L h' more) (hs : ∀ p ∈ allNews b L h, p ∈ more) :
    ∀ a o, a ≠ L → h.get? a = some o → h'.get? a = some o := by
  intro a o hL e
  cases hb : b.get? a with
  | some o' =>
    have := F.keep _ _ hb
    rw [e] at this; cases this
    exact F'.keep _ _ hb
  | none => exact (N _ (hs _ (allNews_mem e hL hb))).1

/-- a pair of ints stands there -/
def PairAt (h : Heap) (t : Addr) (x y : Nat) : Prop := ∃ u v o, h.get? t = some o ∧ o.cls = .type "tuple" ∧ ∃ n, o.data = .seq #[.int (x : Nat) u, .int (y : Nat) v] n

/-- the generator's own state ahead of turn j -/
structure GenSt (b : Heap) (L it : Addr) (ps : List (List (List Nat) × List (List Nat))) (k j : Nat) (h : Heap) : Prop where
  ns : ∃ m t, h.Ns L m ∧ m "ks_odd" = some (.int (oddAt ps k j : Nat) t)
  iter : h.IsTupleIter it 110 j
  keep : ∀ a o, b.get? a = some o → h.get? a = some o
def Since (L it : Addr) (s₀ s : Shared) : Prop := ∃ h' tk, s = { s₀ with heap := h', toks := tk } ∧ ∀ a o, a ≠ L → a ≠ it → s₀.heap.get? a = some o → h'.get? a = some o
theorem Since.refl (L it : Addr) (s : Shared) : Since L it s s := ⟨s.heap, s.toks, rfl, fun _ _ _ _ e => e⟩
theorem Since.get {L it : Addr} {s₀ s : Shared} (x : Since L it s₀ s) {a : Addr} {o : Obj} (h1 : a ≠ L) (h2 : a ≠ it) (e : s₀.heap.get? a = some o) : s.heap.get? a = some o := by
  obtain ⟨h₁, tk₁, rfl, k₁⟩ := x
  exact k₁ a o h1 h2 e
theorem Since.step {L it : Addr} {s₀ s : Shared} (x : Since L it s₀ s) {h' : Heap} {tk : Nat} (k : ∀ a o, a ≠ L → a ≠ it → s.heap.get? a = some o → h'.get? a = some o) : Since L it s₀ { s with heap := h', toks := tk } := by
  obtain ⟨h₁, tk₁, rfl, k₁⟩ := x
  exact ⟨h', tk, rfl, fun a o h1 h2 e => k a o h1 h2 (k₁ a o h1 h2 e)⟩
abbrev gY (b h₀ : Heap) (L : Addr) (ps : List (List (List Nat) × List (List Nat))) (k : Nat) : Protocol := fun m s₀ v s₁ kap =>
  ∃ t it j, j + m + 1 = 8 ∧ v = .ref t ∧ PairAt s₁.heap t (ksE ps k j) (ksO ps k j) ∧ Since L it s₀ s₁ ∧ t ≠ L ∧ it ≠ L ∧ b.get? it = none ∧ h₀.get? it = none ∧ (∀ o, s₀.heap.get? it = some o → o.cls = .type "tuple_iterator") ∧ s₀.heap.get? t = none ∧
    GenSt b L it ps k (j + 1) s₁.heap ∧ ∀ s'' : Shared, GenSt b L it ps k (j + 1) s''.heap → kap (.send .none) s''
abbrev gR (h₀ : Heap) (L : Addr) : GenEnd := fun n s₀ r s₁ => r = .ok (.ret .none) ∧ (n = 0 ∧ ∃ it, Since L it s₀ s₁ ∧ h₀.get? it = none ∧ ∀ o, s₀.heap.get? it = some o → o.cls = .type "tuple_iterator")

/-- the pairs of tables -/
def PairsIn (w : World) (rs : List Addr) (ps : List (List (List Nat) × List (List Nat))) : Prop :=
  rs.length = 8 ∧ ∀ (i : Nat) (r : Addr), rs[i]? = some r → ∃ te to pe po, ps[i]? = some (pe, po) ∧ (∀ h, (hd.heap_39 w.params).In h → h.IsTuple r #[.ref te, .ref to] ∧ TabAt h te pe ∧ TabAt h to po)

local macro_rules | `(tactic| walk_at "call ref") => `(tactic| (k_here; refine' gro_use (perm_gro _ _ _ _ _ ?hT) ?hh ?hd ?F ?N ?X ?T ?_; (case hT => assumption); (case hh => assumption); (case hd => assumption); (case F => k_asm); (case N => k_asm); (case X => k_asm); (case T => k_asm); intro t h' tk F' N'))

section
variable {w : World} {A : Around} {E : Value → Shared → Prop} {s : Shared} {q : Str} {L f : Addr} {cd : Value} {b : Heap} {p : Program} {loose : List Str} {mean : ExcName → Option Value} {mg mb : Str → Option Value} {m : Str → Option Value} {news : List (Addr × Obj)}
theorem g_one {Q : Flow → Shared → Prop} {q4 q5 q6 q7 q8 q9 : Pos} {x : Nat} {t0 : Tok} {te to : Addr} {pe : List (List Nat)}
    (hh : A.handled = none) (hdp : A.depth + 1 < recursionLimit) (X : (hd.heap_39 w.params).In b) (T : Top p loose mean mg mb b)
    (F : Fr b L s.heap (fun y => if y = "p_odd" then some (.ref to) else if y = "p_even" then some (.ref te) else if y = "ks_odd" then some (.int (x : Nat) t0) else m y)) (N : News b L s.heap news)
    (hTe : ∀ h, (hd.heap_39 w.params).In h → TabAt h te pe)
    (h : ∀ (h' : Heap) (tk : Nat) (t2 : Tok), Fr b L h' (fun y => if y = "ks_even" then some (.int (perm pe x : Nat) t2) else if y = "p_odd" then some (.ref to) else if y = "p_even" then some (.ref te) else if y = "ks_odd" then some (.int (x : Nat) t0) else m y) → News b L h' news → Q .next { s with heap := h', toks := tk }) :
    wpAny (model PySem.Challenge.rw_aj5033_01.row.prog w) A (exec (gOne q4 q5 q6 q7 q8 q9) (gEnv q L f cd)) Q E s := by
  revert X
  k_fill
  intro X
  k_steps
  exact h _ _ _ (by assumption) (by assumption)
theorem g_two {Q : Flow → Shared → Prop} {q10 q11 q12 q13 q14 q15 : Pos} {x : Nat} {t0 : Tok} {to : Addr} {po : List (List Nat)}
    (hh : A.handled = none) (hdp : A.depth + 1 < recursionLimit) (X : (hd.heap_39 w.params).In b) (T : Top p loose mean mg mb b)
    (F : Fr b L s.heap (fun y => if y = "ks_even" then some (.int (x : Nat) t0) else if y = "p_odd" then some (.ref to) else m y)) (N : News b L s.heap news)
    (hTo : ∀ h, (hd.heap_39 w.params).In h → TabAt h to po)
    (h : ∀ (h' : Heap) (tk : Nat) (t2 : Tok), Fr b L h' (fun y => if y = "ks_odd" then some (.int (perm po x : Nat) t2) else if y = "ks_even" then some (.int (x : Nat) t0) else if y = "p_odd" then some (.ref to) else m y) → News b L h' news → Q .next { s with heap := h', toks := tk }) :
    wpAny (model PySem.Challenge.rw_aj5033_01.row.prog w) A (exec (gTwo q10 q11 q12 q13 q14 q15) (gEnv q L f cd)) Q E s := by
  revert X
  k_fill
  intro X
  k_steps
  exact h _ _ _ (by assumption) (by assumption)
theorem g_pair {Q : Value → Shared → Prop} {q16 q17 q18 q19 q20 q21 q22 : Pos} {x y : Nat} {t0 t1 : Tok}
    (hh : A.handled = none) (hdp : A.depth + 1 < recursionLimit) (X : (hd.heap_39 w.params).In b) (T : Top p loose mean mg mb b)
    (F : Fr b L s.heap (fun z => if z = "ks_odd" then some (.int (y : Nat) t0) else if z = "ks_even" then some (.int (x : Nat) t1) else m z)) (N : News b L s.heap news)
    (h : ∀ (h' : Heap) (tk : Nat) (t : Addr) (o : Obj), Fr b L h' (fun z => if z = "ks_odd" then some (.int (y : Nat) t0) else if z = "ks_even" then some (.int (x : Nat) t1) else m z) → News b L h' ((t, o) :: news) → PairAt h' t (x &&& ksMask) (y &&& ksMask) → (∀ q ∈ news, q.1 < t) → Q (.ref t) { s with heap := h', toks := tk }) :
    wpAny (model PySem.Challenge.rw_aj5033_01.row.prog w) A (eval (gPair q16 q17 q18 q19 q20 q21 q22) (gEnv q L f cd)) Q E s := by
  revert X
  k_fill
  intro X
  k_steps
  with_reducible rename News _ _ _ _ => N4
  refine h _ _ _ _ (by assumption) N4 ⟨s.toks, s.toks + 1, _, (N4 _ (.head _)).1, rfl, 0, ?_⟩ (by assumption)
  show Data.seq #[.int (Builtin.bitAnd (x : Int) ((ksMask : Nat) : Int)) _, .int (Builtin.bitAnd (y : Int) ((ksMask : Nat) : Int)) _] 0 = _
  rw [and_nat, and_nat]
theorem g_assign {Q : Unit → Shared → Prop} {q1 q2 q3 : Pos} {r te to : Addr}
    (hh : A.handled = none) (X : (hd.heap_39 w.params).In b) (F : Fr b L s.heap m) (N : News b L s.heap news) (ht : IsTup s.heap r #[.ref te, .ref to])
    (h : ∀ (h' : Heap) (tk : Nat), Fr b L h' (fun y => if y = "p_odd" then some (.ref to) else if y = "p_even" then some (.ref te) else m y) → News b L h' news → Q () { s with heap := h', toks := tk }) :
    wpAny (model PySem.Challenge.rw_aj5033_01.row.prog w) A (assign (gTarget q1 q2 q3) (gEnv q L f cd) (.ref r)) Q E s := by
  obtain ⟨ah, ad, af, ag, au⟩ := A
  dsimp only at hh
  subst hh
  revert X
  k_fill
  intro X
  k_steps
  exact h _ _ (by assumption) (by assumption)
end

theorem letGo_tupleiter {prog : Program} {w : World} {A : Around} {E : Value → Shared → Prop} {s : Shared} {elts : List Expr} {x1 : Nat} {pos : Pos} {I l T : Addr} {i : Nat} {Q : Unit → Shared → Prop} (hit : s.heap.IsTupleIter I l i) (hQ : Q () s) :
    wpAny (model prog w) A (letOwnedTupleGo (.Tuple elts x1 pos) (.ref I) (.ref T)) Q E s := by
  obtain ⟨o, ho, hc, hd⟩ := hit
  unfold letOwnedTupleGo
  refine wpAny_bind (wpAny_load ho ?_)
  rw [hc, hd]
  exact wpAny_pure hQ

theorem fr_odd {h₀ h : Heap} {L : Addr} {m : Str → Option Value} {to te : Value} {x : Nat} {t0 : Tok} (F : Fr h₀ L h (fun y => if y = "p_odd" then some to else if y = "p_even" then some te else m y)) (ho : m "ks_odd" = some (.int (x : Nat) t0)) :
    Fr h₀ L h (fun y => if y = "p_odd" then some to else if y = "p_even" then some te else if y = "ks_odd" then some (.int (x : Nat) t0) else m y) := by
  have e : (fun (y : Str) => if y = "p_odd" then some to else if y = "p_even" then some te else m y) = fun (y : Str) => if y = "p_odd" then some to else if y = "p_even" then some te else if y = "ks_odd" then some (.int (x : Nat) t0) else m y := by
    funext y
    by_cases h1 : y = "ks_odd"
    · subst h1; simp [ho]
    · simp only [if_neg h1]
  exact e ▸ F

section
variable {w : World} {A : Around} {q : Str} {L f : Addr} {cd : Value} {b h₀ : Heap} {p : Program} {loose : List Str} {mean : ExcName → Option Value} {mg mb : Str → Option Value} {rs : List Addr} {ps : List (List (List Nat) × List (List Nat))} {key : Nat}
  {q1 q2 q3 q4 q5 q6 q7 q8 q9 q10 q11 q12 q13 q14 q15 q16 q17 q18 q19 q20 q21 q22 q23 q24 q25 q26 : Pos}
abbrev gBody (q4 q5 q6 q7 q8 q9 q10 q11 q12 q13 q14 q15 q16 q17 q18 q19 q20 q21 q22 q23 q24 : Pos) : List Stmt := [gOne q4 q5 q6 q7 q8 q9, gTwo q10 q11 q12 q13 q14 q15, gYield q16 q17 q18 q19 q20 q21 q22 q23 q24]

theorem seg_turns {fs : List Frame} {k : Result → Sem Fin} {p₁ : Pos} {kp : List Value} (hfs : fs = [.ret k none false [] (.func [.For (gTarget q1 q2 q3) (.Name "PCXROT" q25) (gBody q4 q5 q6 q7 q8 q9 q10 q11 q12 q13 q14 q15 q16 q17 q18 q19 q20 q21 q22 q23 q24) [] q26] (gEnv q L f cd)) p₁ kp])
    (hh : A.handled = none) (hdp : A.depth + 3 < recursionLimit) (X : (hd.heap_39 w.params).In b) (T : Top p loose mean mg mb b) (hLb : b.objs.size ≤ L) (hP : PairsIn w rs ps) (hrs : ∀ h, (hd.heap_39 w.params).In h → h.IsTuple 110 (rs.map Value.ref).toArray)
    (hk : k (.ok .next) = .pure (.done (.ret .none))) :
    ∀ (n j : Nat) (s₀ s : Shared) (it : Addr), j + n = 8 → it ≠ L → b.get? it = none → h₀.get? it = none → (∀ o, s₀.heap.get? it = some o → o.cls = .type "tuple_iterator") → GenSt b L it ps key j s.heap → Since L it s₀ s →
      Seg (model PySem.Challenge.rw_aj5033_01.row.prog w) A (gR h₀ L) (gY b h₀ L ps key) n s₀ (.forLoop (gTarget q1 q2 q3) (.ref it) (gBody q4 q5 q6 q7 q8 q9 q10 q11 q12 q13 q14 q15 q16 q17 q18 q19 q20 q21 q22 q23 q24) [] (gEnv q L f cd))
        ((model PySem.Challenge.rw_aj5033_01.row.prog w).den (.forLoop (gTarget q1 q2 q3) (.ref it) (gBody q4 q5 q6 q7 q8 q9 q10 q11 q12 q13 q14 q15 q16 q17 q18 q19 q20 q21 q22 q23 q24) [] (gEnv q L f cd))) fs s := by
  subst hfs
  intro n
  induction n with
  | zero =>
    intro j s₀ s it hj hitL hitb hith hitc G hs
    obtain rfl : j = 8 := by omega
    have Xs : (hd.heap_39 w.params).In s.heap := X.keeps G.keep
    refine seg_forLoop ?_
    refine wpAny_pyNext_tuple_end ?_ G.iter (hrs _ Xs) ?_ fun h' he => ?_
    · exact hh
    · simp [hP.1]
    · refine seg_leaf (.ok .next) ?_
      rw [hk]
      exact seg_end (.ok (.ret .none)) ⟨rfl, rfl, it, hs.step fun a o h1 h2 e => he a o h2 e, hith, hitc⟩
  | succ n ih =>
    intro j s₀ s it hj hitL hitb hith hitc G hs
    have Xs : (hd.heap_39 w.params).In s.heap := X.keeps G.keep
    obtain ⟨r, hr⟩ : ∃ r, rs[j]? = some r := by
      have : j < rs.length := by rw [hP.1]; omega
      exact ⟨rs[j], List.getElem?_eq_getElem this⟩
    obtain ⟨te, to, pe, po, hps, hin⟩ := hP.2 j r hr
    have hpe : ps.getD j ([], []) = (pe, po) := by rw [List.getD_eq_getElem?_getD, hps]; rfl
    refine seg_forLoop ?_
    generalize hA : A.over _ _ = A'
    have hhA : A'.handled = none := by rw [← hA]; exact hh
    have hdA : A'.depth + 1 < recursionLimit := by
      rw [← hA]
      have : (A.over (.forLoop (gTarget q1 q2 q3) (.ref it) (gBody q4 q5 q6 q7 q8 q9 q10 q11 q12 q13 q14 q15 q16 q17 q18 q19 q20 q21 q22 q23 q24) [] (gEnv q L f cd)) [.ret k none false [] (.func [.For (gTarget q1 q2 q3) (.Name "PCXROT" q25) (gBody q4 q5 q6 q7 q8 q9 q10 q11 q12 q13 q14 q15 q16 q17 q18 q19 q20 q21 q22 q23 q24) [] q26] (gEnv q L f cd)) p₁ kp]).depth ≤ A.depth + 1 := Nat.le_of_eq rfl
      omega
    refine wpAny_pyNext_tuple_item G.iter (hrs _ Xs) (x := .ref r) (by simp [hr]) fun h₁ hit₁ hs₁ => ?_
    refine letGo_tupleiter hit₁ ?_
    obtain ⟨m₀, tm, hns, hm₀⟩ := G.ns
    have F₁ : Fr b L h₁ m₀ := ⟨hns.at' fun o e => hs₁.extBut _ _ hitL.symm e, fun a o e => hs₁.extBut _ _ (fun q => by rw [q, hitb] at e; cases e) (G.keep a o e), hLb⟩
    have N₁ := allNews_ok b L h₁
    have hst : Since L it s₀ { s with heap := h₁ } := hs.step fun a o _ h2 e => hs₁.extBut _ _ h2 e
    refine g_assign hhA X F₁ N₁ ((hin _ (X.keeps F₁.keep)).1) fun h₂ tk₂ F₂ N₂ => ?_
    have k₂ := allNews_keep F₁ F₂ N₂ fun _ x => x
    have F₂' := fr_odd F₂ hm₀
    refine seg_execs_cons (seg_wrap ?_)
    rw [hA]
    refine g_one hhA hdA X T F₂' (allNews_ok b L h₂) (fun h xh => (hin h xh).2.1) fun h₃ tk₃ t₃ F₃ N₃ => ?_
    have k₃ := allNews_keep F₂ F₃ N₃ fun _ x => x
    refine seg_execs_cons (seg_wrap ?_)
    rw [hA]
    refine g_two hhA hdA X T F₃ (allNews_ok b L h₃) (fun h xh => (hin h xh).2.2) fun h₄ tk₄ t₄ F₄ N₄ => ?_
    have k₄ := allNews_keep F₃ F₄ N₄ fun _ x => x
    refine seg_execs_cons (seg_Expr_Yield rfl rfl rfl ?_)
    rw [hA]
    refine g_pair hhA hdA X T F₄ (allNews_ok b L h₄) fun h₅ tk₅ t o F₅ N₅ hpair hlt kap hkap => ?_
    have k₅ := allNews_keep F₄ F₅ N₅ fun _ x => List.mem_cons_of_mem _ x
    have itAt : ∀ o, h₁.get? it = some o → h₅.get? it = some o := fun o e => k₅ _ _ hitL (k₄ _ _ hitL (k₃ _ _ hitL (k₂ _ _ hitL e)))
    have htit : t ≠ it := by
      obtain ⟨oi, hoi, _⟩ := hit₁
      have := hlt _ (allNews_mem (b := b) (k₄ _ _ hitL (k₃ _ _ hitL (k₂ _ _ hitL hoi))) hitL hitb)
      exact Nat.ne_of_gt this
    have hst₅ : Since L it s₀ { s with heap := h₅, toks := tk₅ } := hst.step fun a o h1 h2 e => k₅ _ _ h1 (k₄ _ _ h1 (k₃ _ _ h1 (k₂ _ _ h1 e)))
    have e1 : oddAt ps key (j + 1) = perm po (perm pe (oddAt ps key j)) := by rw [oddAt, hpe]
    have e2 : evenAt ps key j = perm pe (oddAt ps key j) := by rw [evenAt, hpe]
    have G₅ : GenSt b L it ps key (j + 1) h₅ := ⟨⟨_, t₄, F₅.ns, by rw [e1]; rfl⟩, hit₁.at itAt, F₅.keep⟩
    refine ⟨t, it, j, by omega, rfl, ?_, hst₅, (N₅ _ (.head _)).2.1, hitL, hitb, hith, hitc, ?_, G₅, fun s'' G'' => ?_⟩
    · rw [ksE, ksO, e1, e2]
      exact hpair
    · cases e : s₀.heap.get? t with
      | none => rfl
      | some o' =>
        have e' := hst.get (o := o') (N₅ _ (.head _)).2.1 htit e
        exact absurd (hlt _ (allNews_mem (b := b) (k₄ _ _ (N₅ _ (.head _)).2.1 (k₃ _ _ (N₅ _ (.head _)).2.1 (k₂ _ _ (N₅ _ (.head _)).2.1 e'))) (N₅ _ (.head _)).2.1 (N₅ _ (.head _)).2.2)) (Nat.lt_irrefl _)
    · refine hkap .none s'' (seg_again rfl (ih (j + 1) s'' s'' it (by omega) hitL hitb hith (fun o e => ?_) G'' (Since.refl _ _ _)))
      obtain ⟨o', ho', hc', _⟩ := G''.iter
      rw [e] at ho'
      cases ho'
      exact hc'
end
end Mine

/-! D6 -/
namespace Mine
theorem fresh_D6 : True := by
  w_top off
  exact True.intro
open PySem.Spec PySem.Calls
section
variable {w : World} {A : Around} {E : Value → Shared → Prop} {s : Shared} {q : Str} {L f : Addr} {cd : Value} {b h₀ : Heap} {p : Program} {loose : List Str} {mean : ExcName → Option Value} {mg mb : Str → Option Value} {m : Str → Option Value} {news : List (Addr × Obj)}
  {rs : List Addr} {ps : List (List (List Nat) × List (List Nat))} {key : Nat}
  {q1 q2 q3 q4 q5 q6 q7 q8 q9 q10 q11 q12 q13 q14 q15 q16 q17 q18 q19 q20 q21 q22 q23 q24 q25 q26 : Pos}
theorem g_iter {Q : Value → Shared → Prop} (X : (hd.heap_39 w.params).In b) (T : Top p loose mean mg mb b) (F : Fr b L s.heap m) (N : News b L s.heap news) (h : Q (.ref 110) s) :
    wpAny (model PySem.Challenge.rw_aj5033_01.row.prog w) A (eval (.Name "PCXROT" q25) (gEnv q L f cd)) Q E s := by
  revert X
  k_fill
  intro X
  k_steps
  exact h

abbrev gFunc (q : Str) (L f : Addr) (cd : Value) (q1 q2 q3 q4 q5 q6 q7 q8 q9 q10 q11 q12 q13 q14 q15 q16 q17 q18 q19 q20 q21 q22 q23 q24 q25 q26 : Pos) : Code :=
  .func [.For (gTarget q1 q2 q3) (.Name "PCXROT" q25) (gBody q4 q5 q6 q7 q8 q9 q10 q11 q12 q13 q14 q15 q16 q17 q18 q19 q20 q21 q22 q23 q24) [] q26] (gEnv q L f cd)

theorem seg_gen (hh : A.handled = none) (hdp : A.depth + 3 < recursionLimit) (X : (hd.heap_39 w.params).In b) (T : Top p loose mean mg mb b) (hLb : b.objs.size ≤ L) (hP : PairsIn w rs ps) (hrs : ∀ h, (hd.heap_39 w.params).In h → h.IsTuple 110 (rs.map Value.ref).toArray)
    {t : Tok} (hns : s.heap.Ns L m) (hm : m "ks_odd" = some (.int (key : Nat) t)) (hk : ∀ a o, b.get? a = some o → s.heap.get? a = some o) (hsz : h₀.objs.size ≤ s.heap.objs.size) :
    Seg (model PySem.Challenge.rw_aj5033_01.row.prog w) A (gR h₀ L) (gY b h₀ L ps key) 8 s (gFunc q L f cd q1 q2 q3 q4 q5 q6 q7 q8 q9 q10 q11 q12 q13 q14 q15 q16 q17 q18 q19 q20 q21 q22 q23 q24 q25 q26)
      ((model PySem.Challenge.rw_aj5033_01.row.prog w).den (gFunc q L f cd q1 q2 q3 q4 q5 q6 q7 q8 q9 q10 q11 q12 q13 q14 q15 q16 q17 q18 q19 q20 q21 q22 q23 q24 q25 q26)) [] s := by
  refine seg_func (seg_execs_cons (seg_For ?_))
  have F : Fr b L s.heap m := ⟨hns, hk, hLb⟩
  refine g_iter X T F (allNews_ok b L s.heap) ?_
  have ht := hrs _ (X.keeps hk)
  refine wpAny_pyIter_tuple ht fun p₁ => ?_
  have hL : L ≠ s.heap.objs.size := Nat.ne_of_lt hns.lt
  have none_of : ∀ h : Heap, h.objs.size ≤ s.heap.objs.size → h.get? s.heap.objs.size = none := fun h hle => Heap.get?_none_of_le hle
  refine seg_turns rfl hh hdp X T hLb hP hrs rfl 8 0 s _ s.heap.objs.size rfl hL.symm (none_of b (Nat.le_trans hLb (Nat.le_of_lt hns.lt))) (none_of h₀ hsz) (fun o e => ?_) ⟨⟨m, t, (F.push _).ns, hm⟩, ⟨_, Heap.get?_push_size _ rfl, rfl, rfl⟩, fun a o e => Heap.get?_push_of_some _ (hk a o e)⟩ ⟨_, _, rfl, fun a o _ _ e => Heap.get?_push_of_some _ e⟩
  exact absurd (Heap.lt_size e) (Nat.lt_irrefl _)
end
end Mine

/-! D7 -/
namespace Mine
local macro_rules | `(tactic| walk_at "idle D7 0") => `(tactic| fail "idle")
theorem fresh_D7 : True := by
  w_top off
  exact True.intro
open PySem.Spec PySem.Calls

theorem setGen_push {s : Shared} {G : Array GenState} {gs x : GenState} (h : s.gens = G.push gs) : (s.setGen G.size x).gens = G.push x := by
  unfold Shared.setGen
  rw [h]
  apply Array.ext'
  simp
theorem ty_ne {x y : String} (h : x ≠ y) (e : Value.type x = Value.type y) : False := h (Value.type.inj e)
theorem PairAt.keeps {h h' : Heap} {t : Addr} {x y : Nat} (H : PairAt h t x y) (k : ∀ o, h.get? t = some o → h'.get? t = some o) : PairAt h' t x y := by
  obtain ⟨u, v, o, ho, r⟩ := H
  exact ⟨u, v, o, k o ho, r⟩

section
variable {w : World} {A : Around} {b h₀ : Heap} {L S a : Addr} {G : Array GenState} {ps : List (List (List Nat) × List (List Nat))} {key : Nat}

abbrev listO (acc : Array Value) (c : Nat) : Obj := { cls := .type "list", dict := none, data := .seq acc c, slots := #[] }

/-- the schedule's list, j pairs long, and the generator that goes on -/
structure GInv (w : World) (A : Around) (b h₀ : Heap) (L S a : Addr) (G : Array GenState) (ps : List (List (List Nat) × List (List Nat))) (key : Nat) (j : Nat) (acc : Array Value) (s : Shared) : Prop where
  size : acc.size = j
  items : ∀ i, i < j → ∃ t, acc[i]? = some (.ref t) ∧ t ≠ L ∧ t ≠ S ∧ h₀.get? t = none ∧ PairAt s.heap t (ksE ps key i) (ksO ps key i)
  gen : s.heap.IsGen a G.size
  keep : ∀ x o, x ≠ L → x ≠ S → h₀.get? x = some o → s.heap.get? x = some o
  goes : ∃ gs, ∃ Al : Heap → Prop, s.gens = G.push gs ∧ Al s.heap ∧ (∀ h h', Heap.SameBut S h h' → Al h → Al h') ∧
    ∀ s'' : Shared, Al s''.heap → gs.Goes (model PySem.Challenge.rw_aj5033_01.row.prog w) A (gR h₀ L) (gY b h₀ L ps key) (8 - j) (.send .none) s''

theorem gen_extend (hh : A.handled = none) (hdp : A.depth < recursionLimit) (hlim : b.NoLimit) (hb : ∀ x o, b.get? x = some o → h₀.get? x = some o) (hbL : b.get? L = none) (hbS : b.get? S = none) (hSL : S ≠ L) (haL : a ≠ L) (haS : a ≠ S) (hS₀ : ∃ o, h₀.get? S = some o) {res : Value} {R : Result → Shared → Prop} :
    ∀ (n j : Nat) (s : Shared) (acc : Array Value) (c : Nat), j + n = 8 → GInv w A.in1.in1 b h₀ L S a G ps key j acc s → s.heap.get? S = some (listO acc c) →
    (∀ (s' : Shared) (acc' : Array Value) (c' : Nat) (gs : GenState), acc'.size = 8 → (∀ i, i < 8 → ∃ t, acc'[i]? = some (.ref t) ∧ t ≠ L ∧ t ≠ S ∧ h₀.get? t = none ∧ PairAt s'.heap t (ksE ps key i) (ksO ps key i)) →
      (∀ x o, x ≠ L → x ≠ S → h₀.get? x = some o → s'.heap.get? x = some o) → s'.heap.get? S = some (listO acc' c') → s'.gens = G.push .finished → s'.drawn = s.drawn → s'.os = s.os → R (.ok (.ret res)) s') →
    codeAny (model PySem.Challenge.rw_aj5033_01.row.prog w) A (.builtin "list.extend.loop" ⟨[.ref S, .ref a, res], []⟩) R s := by
  intro n
  induction n with
  | zero =>
    intro j s acc c hj I hS hR
    obtain rfl : j = 8 := by omega
    obtain ⟨gs, Al, hg, hal, hst, hgo⟩ := I.goes
    have hlims : s.heap.NoLimit := hlim.keeps fun x o e => I.keep x o (fun q => by rw [q, hbL] at e; cases e) (fun q => by rw [q, hbS] at e; cases e) (hb x o e)
    refine codeAny_builtin F.entry_extend_loop ?_
    rw [Around.under_plainId F.plain_extend_loop _]
    show wpAny _ A.in1 (pyNext (.ref a) >>= _) _ _ s
    refine wpAny_bind (wpAny_pyNext_gen (A := A.in1) (P := fun n s₀ s₁ => n = 0 ∧ ∃ it, Since L it s₀ s₁ ∧ h₀.get? it = none ∧ ∀ o, s₀.heap.get? it = some o → o.cls = .type "tuple_iterator") hh hlims hdp I.gen (by rw [hg]; simp) (hgo _ hal) (fun v s₁ gs' hv => ?_) (fun s₁ hp h' hk => ?_))
    · obtain ⟨t, it, j', hj', _, _, _, _, _, _, _, _, _, G', hkap⟩ := hv
      exact (hkap s₁ G').elim
    · obtain ⟨_, it, hs, hit, hitc⟩ := hp
      have hSit : S ≠ it := fun q => ty_ne (by decide) (hitc _ (q ▸ hS))
      refine wpAny_pure ?_
      obtain ⟨h₁, tk₁, rfl, hk₁⟩ := id hs
      refine hR _ acc c .finished I.size (fun i hi => ?_) (fun x o h1 h2 e => hk _ _ (hk₁ x o h1 (fun q => by rw [q, hit] at e; cases e) (I.keep x o h1 h2 e))) (hk _ _ (hk₁ S _ hSL hSit hS)) ?_ rfl rfl
      · obtain ⟨t, h1, h2, h3, h4, h5⟩ := I.items i hi
        refine ⟨t, h1, h2, h3, h4, h5.keeps fun o e => hk _ _ (hk₁ t o h2 (fun q => ?_) e)⟩
        obtain ⟨_, _, o', ho', hc', _⟩ := h5
        exact ty_ne (by decide) (hc'.symm.trans (hitc _ (q ▸ ho')))
      · exact setGen_push (setGen_push hg)
  | succ n ih =>
    intro j s acc c hj I hS hR
    obtain ⟨gs, Al, hg, hal, hst, hgo⟩ := I.goes
    have e8 : 8 - j = n + 1 := by omega
    rw [e8] at hgo
    have hlims : s.heap.NoLimit := hlim.keeps fun x o e => I.keep x o (fun q => by rw [q, hbL] at e; cases e) (fun q => by rw [q, hbS] at e; cases e) (hb x o e)
    refine codeAny_builtin F.entry_extend_loop ?_
    rw [Around.under_plainId F.plain_extend_loop _]
    show wpAny _ A.in1 (pyNext (.ref a) >>= _) _ _ s
    refine wpAny_bind (wpAny_pyNext_gen (A := A.in1) (P := fun n s₀ s₁ => n = 0 ∧ ∃ it, Since L it s₀ s₁ ∧ h₀.get? it = none ∧ ∀ o, s₀.heap.get? it = some o → o.cls = .type "tuple_iterator") hh hlims hdp I.gen (by rw [hg]; simp) (hgo _ hal) (fun v s₁ gs' hv => ?_) (fun s₁ hp h' hk => ?_))
    · obtain ⟨t, it, j', hj', rfl, hpair, hs, htL, hitL, hitb, hith, hitc, htn, G', hkap⟩ := hv
      obtain rfl : j' = j := by omega
      have hSit : S ≠ it := fun q => ty_ne (by decide) (hitc _ (q ▸ hS))
      have hait : a ≠ it := fun q => by
        obtain ⟨o, _, _, ho, hc, _⟩ := I.gen
        exact ty_ne (by decide) (hc.symm.trans (hitc _ (q ▸ ho)))
      have htS : t ≠ S := fun q => by rw [q] at htn; have : s.heap.get? S = none := htn; rw [hS] at this; cases this
      have hth : h₀.get? t = none := by
        cases e : h₀.get? t with
        | none => rfl
        | some o =>
          have h1 := I.keep t o htL htS e
          have h2 : s.heap.get? t = none := htn
          rw [h1] at h2; cases h2
      obtain ⟨h₁, tk₁, rfl, hk₁⟩ := id hs
      have hk₁' : ∀ x o, x ≠ L → x ≠ it → s.heap.get? x = some o → h₁.get? x = some o := hk₁
      have hS₁ : h₁.get? S = some (listO acc c) := hk₁' S _ hSL hSit hS
      show wpAny _ A.in1 (updateSeq S (·.push (.ref t)) >>= _) _ _ _
      refine wpAny_bind (wpAny_updateSeq hS₁ rfl (wpAny_pure ⟨plainId_quiet F.plain_extend_loop _, ?_⟩) (by rw [I.size]; unfold sizeLine; omega) (by rw [Array.size_push, I.size]; unfold sizeLine; omega))
      have hSB : Heap.SameBut S h₁ (h₁.update S (Obj.mapSeq (·.push (.ref t)))) := Heap.SameBut.update ..
      refine ih (j' + 1) _ (acc.push (.ref t)) _ (by omega) ⟨by rw [Array.size_push, I.size], fun i hi => ?_, ?_, fun x o h1 h2 e => ?_, ?_⟩ (Heap.get?_update_self _ hS₁ rfl) ?_
      · by_cases hij : i < j'
        · obtain ⟨ti, h1, h2, h3, h4, h5⟩ := I.items i hij
          refine ⟨ti, ?_, h2, h3, h4, h5.keeps fun o e => (hSB.2 ti h3).trans (hk₁' ti o h2 (fun q => ?_) e)⟩
          · rw [Array.getElem?_push, if_neg (by rw [I.size]; omega)]; exact h1
          · obtain ⟨_, _, o', ho', hc', _⟩ := h5
            exact ty_ne (by decide) (hc'.symm.trans (hitc _ (q ▸ ho')))
        · obtain rfl : i = j' := by omega
          refine ⟨t, ?_, htL, htS, hth, hpair.keeps fun o e => (hSB.2 t htS).trans e⟩
          rw [Array.getElem?_push, if_pos I.size.symm]
      · obtain ⟨o, nm, qn, ho, r⟩ := I.gen
        exact ⟨o, nm, qn, (hSB.2 a haS).trans (hk₁' a o haL hait ho), r⟩
      · exact (hSB.2 x h2).trans (hk₁' x o h1 (fun q => by rw [q, hith] at e; cases e) (I.keep x o h1 h2 e))
      · refine ⟨gs', fun h => GenSt b L it ps key (j' + 1) h, setGen_push (setGen_push hg), ?_, fun h h' hsb g => ?_, fun s'' g => ?_⟩
        · exact ⟨let ⟨m, t', hn, hm⟩ := G'.ns; ⟨m, t', hn.sameBut hSB hSL.symm, hm⟩, G'.iter.at fun o e => (hSB.2 it hSit.symm).trans e, fun x o e => (hSB.2 x (fun q => by rw [q, hbS] at e; cases e)).trans (G'.keep x o e)⟩
        · exact ⟨let ⟨m, t', hn, hm⟩ := g.ns; ⟨m, t', hn.sameBut hsb hSL.symm, hm⟩, g.iter.at fun o e => (hsb.2 it hSit.symm).trans e, fun x o e => (hsb.2 x (fun q => by rw [q, hbS] at e; cases e)).trans (g.keep x o e)⟩
        · have e9 : 8 - (j' + 1) = n := by omega
          rw [e9]
          exact hkap s'' g
      · intro s' acc' c' gs₂ h1 h2 h3 h4 h5 h6 h7
        exact hR s' acc' c' gs₂ h1 h2 h3 h4 h5 h6 h7
    · exact absurd hp.1 (Nat.succ_ne_zero n)
end
end Mine

/-! D8 -/
namespace Mine
theorem fresh_D8 : True := by
  w_top off
  exact True.intro
open PySem.Spec PySem.Calls

/-- the list of eight pairs that the schedule makes -/
def KsList (h : Heap) (S : Addr) (ps : List (List (List Nat) × List (List Nat))) (key : Nat) : Prop :=
  ∃ acc c, h.get? S = some (listO acc c) ∧ acc.size = 8 ∧ ∀ i, i < 8 → ∃ t, acc[i]? = some (.ref t) ∧ PairAt h t (ksE ps key i) (ksO ps key i)

section
variable {w : World} {A : Around} {E : Value → Shared → Prop} {s : Shared} {q : Str} {L f : Addr} {cd : Value} {b : Heap} {p : Program} {loose : List Str} {mean : ExcName → Option Value} {mg mb : Str → Option Value} {m : Str → Option Value}
  {rs : List Addr} {ps : List (List (List Nat) × List (List Nat))} {key : Nat} {a : Addr} {G : Array GenState}
  {q1 q2 q3 q4 q5 q6 q7 q8 q9 q10 q11 q12 q13 q14 q15 q16 q17 q18 q19 q20 q21 q22 q23 q24 q25 q26 : Pos}

theorem list_gen {Q : Value → Shared → Prop} (hh : A.handled = none) (hdp : A.depth + 3 < recursionLimit) (X : (hd.heap_39 w.params).In b) (T : Top p loose mean mg mb b) (hLb : b.objs.size ≤ L) (hP : PairsIn w rs ps) (hrs : ∀ h, (hd.heap_39 w.params).In h → h.IsTuple 110 (rs.map Value.ref).toArray)
    {t : Tok} (hns : s.heap.Ns L m) (hm : m "ks_odd" = some (.int (key : Nat) t)) (hk : ∀ a o, b.get? a = some o → s.heap.get? a = some o)
    (hgen : s.heap.IsGen a G.size) (haL : a ≠ L) (hgs : s.gens = G.push (.fresh (gFunc q L f cd q1 q2 q3 q4 q5 q6 q7 q8 q9 q10 q11 q12 q13 q14 q15 q16 q17 q18 q19 q20 q21 q22 q23 q24 q25 q26)))
    (hQ : ∀ (h' : Heap) (tk : Nat), KsList h' s.heap.objs.size ps key → (∀ x o, x ≠ L → s.heap.get? x = some o → h'.get? x = some o) →
      Q (.ref s.heap.objs.size) { s with heap := h', toks := tk, gens := G.push .finished }) :
    wpAny (model PySem.Challenge.rw_aj5033_01.row.prog w) A (call (.type "list") [.ref a]) Q E s := by
  refine callType_codes (Q₁ := fun obj s₁ => obj = .ref s.heap.objs.size ∧ s₁ = { s with heap := s.heap.push { cls := .type "list", data := .seq #[] } }) F.called_list (F.typeCall_list_1 _) F.entry_list_init
    (code_list_new _ ⟨rfl, rfl⟩) fun obj s₁ h₁ => ?_
  obtain ⟨rfl, rfl⟩ := h₁
  have hS : (s.heap.push { cls := .type "list", data := .seq #[] }).get? s.heap.objs.size = some { cls := .type "list", data := .seq #[] } := Heap.get?_push_size _ rfl
  have hg₁ := hgen.push { cls := .type "list", data := .seq #[] }
  generalize hSS : s.heap.objs.size = S at hS ⊢
  have hLS : L < S := hSS ▸ hns.lt
  have haS : a < S := by
    obtain ⟨o, _, _, ho, _⟩ := hgen
    exact hSS ▸ Heap.lt_size ho
  refine ⟨⟨_, hS, rfl⟩, F.args_list_init_2 _ _, ?_⟩
  show wpAny _ A.in1.in1 (do let old ← Builtin.List.listItems (.ref S); Builtin.List.listUpdate (.ref S) (fun _ => #[]); letGo old.toList.reverse; Builtin.List.listExtendWith (.ref S) (.ref a) .none) _ _ _
  refine wpAny_bind ?_
  unfold Builtin.List.listItems
  refine wpAny_bind (wpAny_seqItems hS rfl (wpAny_pure ?_))
  show wpAny _ A.in1.in1 (updateSeq S (fun _ => #[]) >>= fun _ => letGo (#[] : Array Value).toList.reverse >>= fun _ => Builtin.List.listExtendWith (.ref S) (.ref a) .none) _ _ _
  refine wpAny_bind (wpAny_updateSeq hS rfl ?_)
  have hS₂ := Heap.get?_update_self (Obj.mapSeq (fun _ => (#[] : Array Value))) hS rfl
  have sb₂ := Heap.SameBut.update (s.heap.push { cls := .type "list", data := .seq #[] }) S (Obj.mapSeq (fun _ => (#[] : Array Value)))
  refine wpAny_bind (wpAny_letGo ?_)
  have hg₂ := hg₁.sameBut sb₂ (Nat.ne_of_lt haS)
  generalize hh₂ : (s.heap.push { cls := .type "list", data := .seq #[] }).update S (Obj.mapSeq (fun _ => (#[] : Array Value))) = H₂ at hS₂ sb₂ hg₂ ⊢
  unfold Builtin.List.listExtendWith
  have hT₂ : ({ s with heap := H₂ } : Shared).TypeIs (.ref a) "generator" := Heap.IsGen.typeIs (s := { s with heap := H₂ }) hg₂
  refine wpAny_bind (wpAny_typeOf hT₂ ?_)
  have h1 : Builtin.List.listSameRef (.ref S) (.ref a) = false := by simp [Builtin.List.listSameRef, Nat.ne_of_gt haS]
  have h2 : (Value.type "generator" == Value.type "list") = false := by decide
  have h3 : (Value.type "generator" == Value.type "tuple") = false := by decide
  simp only [h1, h2, h3, Bool.or_false, Bool.false_eq_true, if_false]
  refine wpAny_bind (wpAny_pyIter_gen hg₂ ?_)
  refine wpAny_bind (wpAny_holding ?_)
  unfold Builtin.List.listLengthHint
  refine wpAny_bind (wpAny_specialOf hT₂ F.gen_no_len ?_)
  show wpAny _ A.in1.in1 (specialOf (Value.ref a) (Str.ofString "__length_hint__") >>= _) _ _ _
  refine wpAny_bind (wpAny_specialOf hT₂ F.gen_no_hint ?_)
  refine wpAny_pure ?_
  show wpAny _ A.in1.in1 (rule "list.extend.makes-room" >>= fun _ => Builtin.List.listTouch (.ref S) >>= fun _ =>
    again (.builtin "list.extend.loop" ⟨[.ref S, .ref a, .none], []⟩)) _ _ _
  refine wpAny_bind (wpAny_rule ?_)
  refine wpAny_bind ?_
  show wpAny _ A.in1.in1 (updateSeq S (·.push .none) >>= fun _ => updateSeq S (·.pop)) _ _ _
  refine wpAny_bind (wpAny_updateSeq hS₂ rfl ?_)
  have hS₃ := Heap.get?_update_self (Obj.mapSeq (·.push Value.none)) hS₂ rfl
  have sb₃ := Heap.SameBut.update H₂ S (Obj.mapSeq (·.push Value.none))
  refine wpAny_updateSeq (hz := by seq_fits) hS₃ rfl ?_
  have hS₄ := Heap.get?_update_self (Obj.mapSeq (·.pop)) hS₃ rfl
  have sb₄ := Heap.SameBut.update (H₂.update S (Obj.mapSeq (·.push Value.none))) S (Obj.mapSeq (·.pop))
  generalize hh₄ : (H₂.update S (Obj.mapSeq (·.push Value.none))).update S (Obj.mapSeq (·.pop)) = H₄ at hS₄ sb₄ ⊢
  have oth : ∀ x o, x ≠ S → s.heap.get? x = some o → H₄.get? x = some o := fun x o hx e =>
    (sb₄.2 x hx).trans ((sb₃.2 x hx).trans ((sb₂.2 x hx).trans (Heap.get?_push_of_some _ e)))
  have lt : ∀ x o, s.heap.get? x = some o → x ≠ S := fun x o e => Nat.ne_of_lt (hSS ▸ Heap.lt_size e)
  have hLn : b.get? L = none := Heap.get?_none_of_le hLb
  have hSn : b.get? S = none := Heap.get?_none_of_le (Nat.le_trans hLb (Nat.le_of_lt hLS))
  refine wpAny_pure ⟨plainId_quiet F.plain_extend_loop _, ?_⟩
  refine gen_extend (A := A.in1) (b := b) (h₀ := H₄) (L := L) (S := S) (a := a) (G := G) (ps := ps) (key := key) hh (Nat.lt_of_le_of_lt (Nat.le_add_right _ 3) hdp) T.nolimit (fun x o e => oth x o (lt x o (hk x o e)) (hk x o e)) hLn hSn (Nat.ne_of_gt hLS) haL (Nat.ne_of_lt haS) ⟨_, hS₄⟩ 8 0 _ _ _ rfl ⟨rfl, fun i hi => absurd hi (Nat.not_lt_zero _), ?_, fun x o _ _ e => e, ?_⟩ hS₄ ?_
  · obtain ⟨o, nm, qn, ho, r⟩ := hgen
    exact ⟨o, nm, qn, oth a o (Nat.ne_of_lt haS) ho, r⟩
  · refine ⟨_, fun h => h.Ns L m ∧ (∀ x o, b.get? x = some o → h.get? x = some o) ∧ H₄.objs.size ≤ h.objs.size, hgs, ⟨hns.at' fun o e => oth L o (Nat.ne_of_lt hLS) e, fun x o e => oth x o (lt x o (hk x o e)) (hk x o e), Nat.le_refl _⟩, ?_, ?_⟩
    · rintro h h' hsb ⟨g1, g2, g3⟩
      exact ⟨g1.sameBut hsb (Nat.ne_of_lt hLS), fun x o e => (hsb.2 x (fun q => by rw [q, hSn] at e; cases e)).trans (g2 x o e), Nat.le_trans g3 (Nat.le_of_eq hsb.1.symm)⟩
    · rintro s'' ⟨g1, g2, g3⟩
      exact ⟨rfl, seg_gen hh hdp X T hLb hP hrs g1 hm g2 g3⟩
  · intro s' acc' c' gs e1 e2 e3 e4 e5 e6 e7
    refine ⟨rfl, ?_⟩
    obtain ⟨h', g', d', tk', os'⟩ := s'
    dsimp only at e5 e6 e7
    subst e5 e6 e7
    subst hSS
    exact hQ h' tk' ⟨acc', c', e4, e1, fun i hi => let ⟨t, r1, _, _, _, r2⟩ := e2 i hi; ⟨t, r1, r2⟩⟩ fun x o hx e => e3 x o hx (lt x o e) (oth x o (lt x o e) e)
end
end Mine

/-! D9 -/
namespace Mine
local macro_rules | `(tactic| walk_at "idle D9 0") => `(tactic| fail "idle")
theorem fresh_D9 : True := by
  w_top off
  exact True.intro
open PySem.Spec PySem.Calls

/-- names that are known to hold these values, laid on top -/
def chain : List (Str × Value) → (Str → Option Value) → Str → Option Value
  | [], m => m
  | q :: l, m => fun y => if y = q.1 then some q.2 else chain l m y
theorem chain_eq {m : Str → Option Value} : ∀ {l : List (Str × Value)}, (∀ q ∈ l, m q.1 = some q.2) → chain l m = m
  | [], _ => rfl
  | q :: l, h => by
    funext y
    show (if y = q.1 then some q.2 else chain l m y) = m y
    rw [chain_eq fun r hr => h r (.tail _ hr)]
    by_cases e : y = q.1
    · rw [if_pos e, e, h q (.head _)]
    · rw [if_neg e]

/-- one more name is set, nothing else that we keep in sight is touched -/
structure SetPost (h₀ : Heap) (L : Addr) (m : Str → Option Value) (news : List (Addr × Obj)) (x : Str) (v : Tok → Value) (s : Shared) (f : Flow) (s' : Shared) : Prop where
  ex : f = .next ∧ ∃ h' tk t, s' = { s with heap := h', toks := tk } ∧ Fr h₀ L h' (fun y => if y = x then some (v t) else m y) ∧ News h₀ L h' news
theorem SetPost.intro {h₀ h' : Heap} {L : Addr} {m m' : Str → Option Value} {news : List (Addr × Obj)} {x : Str} {v : Tok → Value} {s : Shared} {tk : Nat} {t : Tok} (F : Fr h₀ L h' m') (N : News h₀ L h' news) (e : m' = fun y => if y = x then some (v t) else m y) :
    SetPost h₀ L m news x v s .next { s with heap := h', toks := tk } := ⟨rfl, h', tk, t, rfl, e ▸ F, N⟩
theorem SetPost.int {h₀ h' : Heap} {L : Addr} {m : Str → Option Value} {news : List (Addr × Obj)} {x : Str} {s : Shared} {tk : Nat} {t : Tok} {c : Int} {n : Nat} (F : Fr h₀ L h' (fun y => if y = x then some (.int c t) else m y)) (N : News h₀ L h' news) (e : c = (n : Int)) :
    SetPost h₀ L m news x (fun t => .int ((n : Nat) : Int) t) s .next { s with heap := h', toks := tk } := ⟨rfl, h', tk, t, rfl, e ▸ F, N⟩
theorem cut_set {M : Model} {A : Around} {E : Value → Shared → Prop} {s : Shared} {env : Env} {h₀ : Heap} {L : Addr} {m : Str → Option Value} {news : List (Addr × Obj)} {st : Stmt} {rest : List Stmt} {Q : Flow → Shared → Prop} (F : Fr h₀ L s.heap m) (N : News h₀ L s.heap news) (x : Str) (v : Tok → Value)
    (h1 : wpAny M A (exec st env) (SetPost h₀ L m news x v s) E s)
    (h2 : ∀ (h' : Heap) (tk : Nat) (t : Tok), Fr h₀ L h' (fun y => if y = x then some (v t) else m y) → News h₀ L h' news → wpAny M A (execs rest env) Q E { s with heap := h', toks := tk }) :
    wpAny M A (execs (st :: rest) env) Q E s := by
  refine wpAny_execs_cons (wpAny_mono h1 (fun f s' h => ?_) fun _ _ x => x)
  obtain ⟨rfl, h', tk, t, rfl, F, N⟩ := h.ex
  exact h2 h' tk t F N

theorem letGo_listiter {prog : Program} {w : World} {A : Around} {E : Value → Shared → Prop} {s : Shared} {elts : List Expr} {x1 : Nat} {pos : Pos} {I l T : Addr} {i : Nat} {Q : Unit → Shared → Prop} (hit : s.heap.IsListIter I l i) (hQ : Q () s) :
    wpAny (model prog w) A (letOwnedTupleGo (.Tuple elts x1 pos) (.ref I) (.ref T)) Q E s := by
  obtain ⟨o, ho, hc, hd⟩ := hit
  unfold letOwnedTupleGo
  refine wpAny_bind (wpAny_load ho ?_)
  rw [hc, hd]
  exact wpAny_pure hQ

/-- a list of eight pairs of ints -/
def Pairs8 (h : Heap) (S : Addr) (xs ys : Nat → Nat) : Prop :=
  ∃ acc c, h.get? S = some (listO acc c) ∧ acc.size = 8 ∧ ∀ i, i < 8 → ∃ t, acc[i]? = some (.ref t) ∧ PairAt h t (xs i) (ys i)

section
variable {prog : Program} {w : World} {A : Around} {E : Value → Shared → Prop} {s : Shared} {env : Env} {h₀ : Heap} {m : Str → Option Value}
theorem for_pairs {Q : Flow → Shared → Prop} {xi xc : Str} {pk pv pt pos : Pos} {x1 : Nat} {iter : Expr} {body : List Stmt} {S : Addr} {xs ys : Nat → Nat} (hh : A.handled = none)
    (J : Nat → (Str → Option Value) → Prop)
    (hxi : env.kindOf xi = some .local) (hxc : env.kindOf xc = some .local)
    (hp : (env.scope.kind == .class || (env.scope.kind == .module && env.locals != env.globals)) = false)
    (F : Fr h₀ env.locals s.heap m) (hl : Pairs8 s.heap S xs ys) (h0 : J 0 m)
    (hit : wpAny (model prog w) A (eval iter env) (fun x s₁ => x = .ref S ∧ s₁ = s) E s)
    (turn : ∀ i m₁ (h : Heap) tk (u v : Tok) (news : List (Addr × Obj)), i < 8 → J i m₁ → Fr h₀ env.locals h (fun z => if z = xc then some (.int (ys i : Nat) v) else if z = xi then some (.int (xs i : Nat) u) else m₁ z) → News h₀ env.locals h news →
      wpAny (model prog w) A (execs body env) (fun f s' => f = .next ∧ ∃ h' tk' m', s' = { s with heap := h', toks := tk' } ∧ Fr h₀ env.locals h' m' ∧ News h₀ env.locals h' news ∧ J (i + 1) m') E { s with heap := h, toks := tk })
    (done : ∀ h' tk m', Fr h₀ env.locals h' m' → (∀ a o, a ≠ env.locals → s.heap.get? a = some o → h'.get? a = some o) → J 8 m' → Q .next { s with heap := h', toks := tk })
    (hs : ∀ x, foldedSetIterable iter env x = pure x := by intro _; rfl)
    (hE : PassesOwn (model prog w) A env E := by passes_own) :
    wpAny (model prog w) A (exec (.For (.Tuple [.Name xi pk, .Name xc pv] x1 pt) iter body [] pos) env) Q E s := by
  obtain ⟨acc, c, hS, hsz, hitems⟩ := hl
  have hl₀ : s.heap.IsList S acc := ⟨_, hS, rfl, _, rfl⟩
  refine wpAny_For (wpAny_mono hit (fun xv s₁ hx => ?_) fun _ _ e => e) hs
  obtain ⟨rfl, rfl⟩ := hx
  refine wpAny_pyIter_list hl₀ ?_
  generalize hI : s₁.heap.objs.size = I
  have hSI : S < I := hI ▸ Heap.lt_size hS
  have hLI : env.locals < I := hI ▸ F.ns.lt
  have hIn : h₀.get? I = none := Heap.get?_none_of_le (Nat.le_trans F.above (Nat.le_of_lt hLI))
  have hSL : S ≠ env.locals := fun q => by
    obtain ⟨o, es, ep, e, hd, _⟩ := F.ns
    rw [q, e] at hS
    cases hS
    cases hd
  have lt : ∀ x o, s₁.heap.get? x = some o → x ≠ I := fun x o e => Nat.ne_of_lt (hI ▸ Heap.lt_size e)
  refine codeAny_forLoop_any
    (fun k s' => ∃ h' tk m' i, s' = { s₁ with heap := h', toks := tk } ∧ h'.IsListIter I S i ∧ Fr h₀ env.locals h' m' ∧ (∀ a o, a ≠ env.locals → s₁.heap.get? a = some o → h'.get? a = some o) ∧ J i m' ∧ i ≤ 8 ∧ k = 9 - i) ?_ 9
    ⟨s₁.heap.push { cls := .type "list_iterator", data := .fields #[.ref S, .int 0 0] }, s₁.toks, m, 0, rfl, ⟨_, by rw [← hI]; exact Heap.get?_push_size _ rfl, rfl, rfl⟩, F.push _, fun a o _ e => Heap.get?_push_of_some _ e, h0, Nat.zero_le _, rfl⟩
  rintro k s' ⟨H, tk, m', i, rfl, hit', F', hk', hJ, hi, rfl⟩
  have hlH : H.IsList S acc := ⟨_, hk' S _ hSL hS, rfl, _, rfl⟩
  by_cases hlt : i < 8
  · obtain ⟨t, ht, u, v, o, hto, hcls, n, hdat⟩ := hitems i hlt
    have htL : t ≠ env.locals := fun q => by
      obtain ⟨o', es, ep, e, hd, _⟩ := F.ns
      rw [q, e] at hto
      cases hto
      rw [hd] at hdat
      cases hdat
    refine wpAny_pyNext_list_item hit' hlH ht fun h₁ hit₁ hs₁ => ?_
    refine letGo_listiter hit₁ ?_
    have F₁ : Fr h₀ env.locals h₁ m' := ⟨F'.ns.at' fun o e => hs₁.extBut _ _ (Nat.ne_of_lt hLI) e, fun a o e => hs₁.extBut _ _ (fun q => by rw [q, hIn] at e; cases e) (F'.keep a o e), F'.above⟩
    have ht₁ : h₁.IsTuple t #[.int (xs i : Nat) u, .int (ys i : Nat) v] := ⟨o, hs₁.extBut _ _ (lt t o hto) (hk' t o htL hto), hcls, n, hdat⟩
    refine wpAny_assign_Tuple hh ht₁ rfl rfl fun h₃ hx₃ => ?_
    replace hx₃ : Heap.ExtBut h₁.objs.size h₁ h₃ := hx₃
    have up₃ : ∀ b o, h₁.get? b = some o → h₃.get? b = some o := fun b o x => hx₃ b o (Nat.ne_of_lt (Heap.lt_size x)) x
    have F₃ : Fr h₀ env.locals h₃ m' := Fr.grow F₁ up₃
    show wpAny _ A (do holding [.int (ys i : Nat) v] (assign (.Name xi pk) env (.int (xs i : Nat) u)); do holding [] (assign (.Name xc pv) env (.int (ys i : Nat) v)); pure ()) _ _ _
    refine wpAny_bind (wpAny_holding (wpAny_assign_Name (wpAny_storeName_local hxi F₃.ns (fun h₄ hn₄ hs₄ => ?_) hp)))
    replace hs₄ : Heap.SameBut env.locals h₃ h₄ := hs₄
    have F₄ := F₃.set hn₄ hs₄
    refine wpAny_bind (wpAny_holding (wpAny_assign_Name (wpAny_storeName_local hxc F₄.ns (fun h₅ hn₅ hs₅ => wpAny_pure ?_) hp)))
    replace hs₅ : Heap.SameBut env.locals h₄ h₅ := hs₅
    have F₅ := F₄.set hn₅ hs₅
    have k₅ : ∀ a o, a ≠ env.locals → h₁.get? a = some o → h₅.get? a = some o := fun a o ha e => hs₅.extBut a o ha (hs₄.extBut a o ha (up₃ a o e))
    refine wpAny_passesOwn hE (wpAny_mono (turn i m' h₅ _ u v _ hlt hJ F₅ (allNews_ok h₀ env.locals h₅)) (fun f s₃ h₆ => ?_) fun _ _ e => e)
    obtain ⟨rfl, h₆', tk₆, m₂, rfl, F₆, N₆, hJ₆⟩ := h₆
    have k₆ := allNews_keep F₅ F₆ N₆ fun _ x => x
    refine ⟨9 - (i + 1), by omega, h₆', tk₆, m₂, i + 1, rfl, hit₁.at fun o e => k₆ _ _ (Nat.ne_of_gt hLI) (k₅ _ _ (Nat.ne_of_gt hLI) e), F₆, fun a o ha e => k₆ _ _ ha (k₅ _ _ ha (hs₁.extBut _ _ (lt a o e) (hk' a o ha e))), hJ₆, hlt, rfl⟩
  · obtain rfl : i = 8 := by omega
    refine wpAny_pyNext_list_end hh hit' hlH (by rw [Array.getElem?_eq_none]; omega) fun h₁ he => wpAny_execs_nil ?_
    have F₁ : Fr h₀ env.locals h₁ m' := ⟨F'.ns.at' fun o e => he _ _ (Nat.ne_of_lt hLI) e, fun a o e => he _ _ (fun q => by rw [q, hIn] at e; cases e) (F'.keep a o e), F'.above⟩
    exact done h₁ tk m' F₁ (fun a o ha e => he _ _ (lt a o e) (hk' a o ha e)) hJ
end

/-- a row of 64 numbers, laid once and for all -/
def RowOf (w : World) (l : Addr) (row : List Nat) : Prop := ∀ h, (hd.heap_39 w.params).In h → ∃ vs, IsTup h l vs.toArray ∧ IntsAre vs (zInts row) ∧ row.length = 64
theorem idx_at (b : Nat) (k : Int) (j : Nat) (hk : k.toNat = j) : Builtin.bitAnd ((b : Int).fdiv (2 ^ k.toNat)) 63 = ((b >>> j &&& 63 : Nat) : Int) := by
  rw [shr_nat, hk]; exact and_nat _ 63
/-- a number with a name of its own -/
structure Same (x y : Nat) : Prop where
  eq : x = y
theorem item_spe {prog : Program} {w w' : World} {A : Around} {E : Value → Shared → Prop} {s : Shared} {value slice : PySem.Expr} {l : Addr} {row : List Nat} {c : Int} {n : Nat} {u : Tok} {Q : Value → Shared → Prop} {h₀ : Heap} {L : Addr} {m : Str → Option Value}
    (H : RowOf w' l row) (X : (hd.heap_39 w'.params).In h₀) (F : Fr h₀ L s.heap m) (hc : c = ((n &&& 63 : Nat) : Int))
    (h : ∀ (x : Nat) t, Same x (row.getD (n &&& 63) 0) → Q (.int (x : Nat) t) s)
    (hs : ∀ c : Int, subscripted slice false (.ref l) (.int c u) = operate [.ref l, .int c u] (getItem (.ref l) (.int c u)) := by intro _; with_unfolding_all rfl) :
    wpAny (model prog w) A (subscriptTail value slice (.ref l) (.int c u)) Q E s := by
  obtain ⟨vs, ht, hi, hl⟩ := H _ X
  have hb : (n &&& 63) < 64 := Nat.lt_succ_of_le (Nat.and_le_right)
  have hz : (zInts row).length = 64 := by unfold zInts; simp [hl]
  refine item_anyT (ht.keeps F.keep) hi (by rw [hc]; omega) (by rw [hc, hz]; omega) (by rw [hc]; omega) (fun t => ?_) (hs c)
  rw [hc, Int.toNat_natCast, zInts_getD]
  exact h _ t ⟨rfl⟩
end Mine

/-! D10 -/
namespace Mine
theorem fresh_D10 : True := by
  w_top off
  exact True.intro
open PySem.Spec PySem.Calls

/-- the table of a code that makes one def: empty yet, or with that def's code in it (made since the base g) -/
def TabSt (g h : Heap) (P : Addr) (line col : Int) (qual : Str) : Prop :=
  ∃ ps, h.get? P = some (tabObj ps) ∧ (ps = #[] ∨ ∃ c', ps = #[rawInt line, rawInt col, .ref c'] ∧ h.CodeRec (.ref c') qual ∧ g.get? c' = none)

theorem codeRec_ne {h : Heap} {c P : Addr} {qual : Str} {ps : Array Value} (x : h.CodeRec (.ref c) qual) (hP : h.get? P = some (tabObj ps)) (hps : ps = #[] ∨ ∃ c' a b, ps = #[rawInt a, rawInt b, .ref c']) : c ≠ P := by
  obtain ⟨c₂, oc, vs, t, e2, hoc, hd, hv⟩ := x
  cases e2
  rintro rfl
  rw [hP] at hoc
  cases hoc
  cases hd
  rcases hps with rfl | ⟨c', a, b, rfl⟩
  · cases hv
  · simp [rawInt] at hv

section
variable {M : Model} {A : Around} {E : Value → Shared → Prop} {s : Shared} {h₀ : Heap} {L a c P : Addr} {m mg mb : Str → Option Value} {cn : Str} {cs : Scope} {ccd : Value} {cl : List (Str × Addr)} {news : List (Addr × Obj)}
  {p : Program} {loose : List Str} {mean : ExcName → Option Value} {name qual : Str} {params : Arguments} {body : List Stmt} {scope : Scope} {ps : Array Value} {pos : Pos} {firstLine : Nat} {clos : List (Str × Addr)}
theorem nest_any {Q : Value → Shared → Prop} (F : Fr h₀ L s.heap m) (N : News h₀ L s.heap ((P, tabObj ps) :: news)) (hne : ∀ q ∈ news, q.1 ≠ P) (T : Top p loose mean mg mb h₀) (C : CodeHd h₀ c P) (hcd : ccd = .ref c)
    (hps : ps = #[] ∨ ∃ c', ps = #[rawInt pos.line, rawInt pos.col, .ref c'] ∧ ∃ oc vs t, (c', oc) ∈ news ∧ oc.data = .fields vs ∧ vs[1]? = some (.str qual t))
    (hcl : closureFor scope (envX cn cs L a ccd cl) = pure clos)
    (h : ∀ f c' oc vs t ctv doc h' tk, Fr h₀ L h' m → News h₀ L h' ((f, fnMade name qual params body scope clos doc ((mg "__name__").getD .none) c' ctv) :: (c', oc) :: (P, tabObj #[rawInt pos.line, rawInt pos.col, .ref c']) :: news) →
      oc.data = .fields vs → vs[1]? = some (.str qual t) → Q (.ref f) { s with heap := h', toks := tk }) :
    wpAny M A (makeFunction name qual params (.stmts body) scope (envX cn cs L a ccd cl) [] [] [] pos firstLine) Q E s := by
  rcases hps with rfl | ⟨c', rfl, oc, vs, t, hmem, hd, hv⟩
  · have U : UpdF P (tabObj #[]) ((P, tabObj #[]) :: news) (fun o => (P, o) :: news) := UpdF.head hne
    exact nest_K F N T C hcd U trivial rfl hcl fun f c' oc vs t ctv doc h' tk F' N' hd hv _ _ => h f c' oc vs t ctv doc h' tk F' N' hd hv
  · refine nestHit_K (c' := c') F N T C hcd (.head _) ?_ ?_ hcl fun f ctv doc h' tk F' N' _ => ?_
    · simp [TriplesOk, rawInt]
    · simp [codeAmong, rawInt]
    · refine h f c' oc vs t ctv doc h' tk F' (fun q hq => ?_) hd hv
      rcases List.mem_cons.mp hq with rfl | hq
      · exact N' _ (.head _)
      · rcases List.mem_cons.mp hq with rfl | hq
        · exact N' _ (.tail _ (.tail _ hmem))
        · exact N' _ (.tail _ hq)
end

section
variable {prog : Program} {w : World} {A : Around} {E : Value → Shared → Prop} {s : Shared} {h₀ : Heap} {L : Addr} {m : Str → Option Value} {news : List (Addr × Obj)}
theorem call_genfn {Q : Value → Shared → Prop} {name qual : Str} {params : Arguments} {body : List Stmt} {scope : Scope} {doc pm ctv : Value} {c' f : Addr} {vals : List Value} {binds : List (Str × Value)}
    (F : Fr h₀ L s.heap m) (N : News h₀ L s.heap news) (hlim : h₀.NoLimit) (hroom : A.depth < recursionLimit)
    (ho : s.heap.get? f = some (fnMade name qual params body scope [] doc pm c' ctv)) (hcd : s.heap.CodeRec (.ref c') qual)
    (hbind : BindsTo s (fnX name qual params body scope [] .none .none doc pm none (.ref c') ctv) ⟨vals, []⟩ binds) (hloc : ∀ y ∈ binds, scope.names.lookup y.1 = some .local)
    (hco : scope.isCoroutine = false) (hgen : scope.isGenerator = true) (hk : scope.kind = .function) (hcell : ∀ x ∈ scope.names, x.2 ≠ .cell)
    (h : ∀ (L' a : Addr) (h' : Heap) (tk : Nat), Fr h₀ L h' m → News h₀ L h' news → L ≠ L' → (∀ q ∈ news, q.1 ≠ L') → h₀.objs.size ≤ L' → h'.Ns L' (fun y => binds.reverse.lookup y) → h'.IsGen a s.gens.size → a ≠ L' → (∀ b o, s.heap.get? b = some o → h'.get? b = some o) → s.heap.get? L' = none →
      Q (.ref a) { s with heap := h', toks := tk, gens := s.gens.push (.fresh (.func body (envOf qual scope L' f (.ref c')))) }) :
    wpAny (model prog w) A (call (.ref f) vals) Q E s := by
  refine wpAny_call (codeAny_call_generator hroom ho rfl hco hgen rfl hcd (hbind _ _ _ _ ?_))
  refine wpAny_newFunctionEnv hcell hloc (fun h₁ hns₁ hsb₁ => ?_) hk
  have k₁ : ∀ b o, s.heap.get? b = some o → h₁.get? b = some o := fun b o e => hsb₁.extBut b o (Nat.ne_of_lt (Heap.lt_size e)) (Heap.get?_push_of_some _ e)
  refine ⟨(hlim.keeps F.keep).keeps k₁, ?_⟩
  refine h s.heap.objs.size h₁.objs.size _ _ (Fr.grow F fun b o e => Heap.get?_push_of_some _ (k₁ b o e)) (News.grow N fun b o e => Heap.get?_push_of_some _ (k₁ b o e)) (Nat.ne_of_lt F.ns.lt) (fun q hq => Nat.ne_of_lt (Heap.lt_size (N q hq).1)) (Nat.le_trans F.above (Nat.le_of_lt F.ns.lt))
    (hns₁.push _) ⟨_, _, _, Heap.get?_push_size _ rfl, rfl, rfl, rfl⟩ (Nat.ne_of_gt hns₁.lt) (fun b o e => Heap.get?_push_of_some _ (k₁ b o e)) (Heap.get?_none_of_le (Nat.le_refl _))
end
end Mine

/-! D11 -/
namespace Mine
theorem fresh_D11 : True := by
  w_top off
  exact True.intro
open PySem.Spec PySem.Calls
/-- the parts of a def of the text, by the place of its function -/
def fdOf (K : Frag) (a : Addr) : Option FuncData := match K.lookup a with
  | some ⟨_, _, .func fd, _⟩ => some fd
  | _ => none
def stmtsOf (K : Frag) (a : Addr) : List Stmt := match fdOf K a with
  | some fd => (match fd.body with | .stmts b => b | _ => [])
  | none => []
def scopeOf (K : Frag) (a : Addr) : Scope := match fdOf K a with
  | some fd => fd.scope
  | none => default
/-- the body of the for that stands second in a while -/
def innerOf : Option Stmt → List Stmt
  | some (.While _ (_ :: .For _ _ body _ _ :: _) _ _) => body
  | _ => []
def turnBody (K : Frag) : List Stmt := innerOf (stmtsOf K 211)[9]?
abbrev desEnv (K : Frag) (L : Addr) : Env := envOf "des_encrypt_int_block" (scopeOf K 211) L 211 (.ref 210)

def kN (r sl : Nat) : Nat := (r >>> 32 ^^^ r) &&& sl
def bN (r k ks : Nat) : Nat := k <<< 32 ^^^ k ^^^ r ^^^ ks
def sN (spe : List (List Nat)) (b : Nat) (i sh : Nat) : Nat := (spe.getD i []).getD (b >>> sh &&& 63) 0
def fN (spe : List (List Nat)) (b : Nat) : Nat :=
  sN spe b 0 58 ^^^ sN spe b 1 50 ^^^ sN spe b 2 42 ^^^ sN spe b 3 34 ^^^ sN spe b 4 26 ^^^ sN spe b 5 18 ^^^ sN spe b 6 10 ^^^ sN spe b 7 2
def halfN (spe : List (List Nat)) (sl ks r : Nat) : Nat := fN spe (bN r (kN r sl) ks)

/-- the rows of the eight boxes -/
def SpeIn (w : World) (spe : List (List Nat)) : Prop := ∀ i, i < 8 → RowOf w (120 + i) (spe.getD i [])

abbrev speL : List (Str × Value) := [("SPE0", .ref 120), ("SPE1", .ref 121), ("SPE2", .ref 122), ("SPE3", .ref 123), ("SPE4", .ref 124), ("SPE5", .ref 125), ("SPE6", .ref 126), ("SPE7", .ref 127)]
abbrev turnL (ko ke l r sl : Nat) (τ : Nat → Tok) : List (Str × Value) := ("ks_odd", .int (ko : Nat) (τ 0)) :: ("ks_even", .int (ke : Nat) (τ 1)) :: ("L", .int (l : Nat) (τ 2)) :: ("R", .int (r : Nat) (τ 3)) :: ("salt", .int (sl : Nat) (τ 4)) :: speL

local macro_rules | `(tactic| walk_at "subscriptTail") => `(tactic| (k_here; (with_reducible show wpAny _ _ (subscriptTail _ _ (Value.ref _) (Value.int (Builtin.bitAnd _ 63) _)) _ _ _); (with_reducible refine' item_spe ?k1 ?k2 ?k3 ?k4 ?_); (case k1 => with_reducible assumption); (case k2 => with_reducible assumption); (case k3 => with_reducible assumption); (case k4 => (with_reducible exact idx_at _ _ _ rfl)); k_whole; intro _ _ _))

local macro_rules | `(tactic| walk_at "binaryOp RShift int int") => `(tactic| (k_here; (with_reducible refine rshift_int ?kb1 ?_); (case kb1 => decide)))

section
variable {w : World} {A : Around} {E : Value → Shared → Prop} {s : Shared} {Lc : Addr} {b : Heap} {p : Program} {loose : List Str} {mean : ExcName → Option Value} {mg mb : Str → Option Value} {m : Str → Option Value} {news : List (Addr × Obj)} {spe : List (List Nat)}
theorem turn_walk {Q : Flow → Shared → Prop} {ko ke l r sl : Nat} {τ : Nat → Tok} (hh : A.handled = none) (X : (hd.heap_39 w.params).In b) (T : Top p loose mean mg mb b) (hS : SpeIn w spe) (hsl : sl < 4294967296)
    (F : Fr b Lc s.heap (chain (turnL ko ke l r sl τ) m)) (N : News b Lc s.heap news)
    (h : ∀ (h' : Heap) (tk : Nat) (m' : Str → Option Value) (t t' : Tok), Fr b Lc h' m' → News b Lc h' news → m' "L" = some (.int ((l ^^^ halfN spe sl ke r : Nat) : Int) t) → m' "R" = some (.int ((r ^^^ halfN spe sl ko (l ^^^ halfN spe sl ke r) : Nat) : Int) t') →
      (∀ y : Str, y ≠ "L" → y ≠ "R" → y ≠ "k" → y ≠ "B" → m' y = chain (turnL ko ke l r sl τ) m y) → Q .next { s with heap := h', toks := tk }) :
    wpAny (model PySem.Challenge.rw_aj5033_01.row.prog w) A (execs (turnBody (hd.heap_39 w.params)) (desEnv (hd.heap_39 w.params) Lc)) Q E s := by
  have S0 : RowOf w 120 (spe.getD 0 []) := hS 0 (by decide)
  have S1 : RowOf w 121 (spe.getD 1 []) := hS 1 (by decide)
  have S2 : RowOf w 122 (spe.getD 2 []) := hS 2 (by decide)
  have S3 : RowOf w 123 (spe.getD 3 []) := hS 3 (by decide)
  have S4 : RowOf w 124 (spe.getD 4 []) := hS 4 (by decide)
  have S5 : RowOf w 125 (spe.getD 5 []) := hS 5 (by decide)
  have S6 : RowOf w 126 (spe.getD 6 []) := hS 6 (by decide)
  have S7 : RowOf w 127 (spe.getD 7 []) := hS 7 (by decide)
  unfold desEnv
  conv in (turnBody _) => whnf
  conv in (scopeOf _ _) => whnf
  obtain ⟨ah, ad, af, ag, au⟩ := A
  dsimp only at hh
  subst hh
  dsimp only [chain, turnL, speL] at F
  refine cut_set F N "k" (fun t => .int ((kN r sl : Nat) : Int) t) ?_ fun h1 tk1 t1 F1 N1 => ?_
  · clear h
    revert X
    k_fill
    intro X
    k_steps
    with_reducible rename Fr _ _ _ _ => F4
    refine SetPost.int F4 (by with_reducible assumption) ?_
    clear F4
    simp only [Int.reduceToNat, shr_nat, xor_nat, and_nat, kN]
  clear F N
  try dsimp only
  have hk : ((kN r sl : Nat) : Int) ≤ 18446744073709551615 := by
    have : kN r sl ≤ sl := Nat.and_le_right
    omega
  refine cut_set F1 N1 "B" (fun t => .int ((bN r (kN r sl) ke : Nat) : Int) t) ?_ fun h2 tk2 t2 F2 N2 => ?_
  · clear h
    revert X
    k_fill
    intro X
    k_steps
    with_reducible rename Fr _ _ _ _ => F4
    refine SetPost.int F4 (by with_reducible assumption) ?_
    clear F4
    simp only [Int.reduceToNat, xor_nat, shl_nat, bN]
  clear F1 N1
  try dsimp only
  generalize hB : bN r (kN r sl) ke = B at F2
  refine cut_set F2 N2 "L" (fun t => .int ((l ^^^ halfN spe sl ke r : Nat) : Int) t) ?_ fun h3 tk3 t3 F3 N3 => ?_
  · clear h
    revert X
    k_fill
    intro X
    k_steps
    with_reducible rename Fr _ _ _ _ => F4
    refine SetPost.int F4 (by with_reducible assumption) ?_
    clear F4
    (repeat (with_reducible rename Same _ _ => hx; obtain ⟨hx⟩ := hx; subst hx))
    simp only [xor_nat, halfN, fN, sN, hB, Int.reduceToNat]
  clear F2 N2
  try dsimp only
  clear hB hk
  generalize hL : l ^^^ halfN spe sl ke r = l' at F3 h
  refine cut_set F3 N3 "k" (fun t => .int ((kN l' sl : Nat) : Int) t) ?_ fun h5 tk5 t5 F5 N5 => ?_
  · clear h
    revert X
    k_fill
    intro X
    k_steps
    with_reducible rename Fr _ _ _ _ => F4
    refine SetPost.int F4 (by with_reducible assumption) ?_
    clear F4
    simp only [Int.reduceToNat, shr_nat, xor_nat, and_nat, kN]
  clear F3 N3
  try dsimp only
  have hk : ((kN l' sl : Nat) : Int) ≤ 18446744073709551615 := by
    have : kN l' sl ≤ sl := Nat.and_le_right
    omega
  refine cut_set F5 N5 "B" (fun t => .int ((bN l' (kN l' sl) ko : Nat) : Int) t) ?_ fun h6 tk6 t6 F6 N6 => ?_
  · clear h
    revert X
    k_fill
    intro X
    k_steps
    with_reducible rename Fr _ _ _ _ => F4
    refine SetPost.int F4 (by with_reducible assumption) ?_
    clear F4
    simp only [Int.reduceToNat, xor_nat, shl_nat, bN]
  clear F5 N5
  try dsimp only
  generalize hB : bN l' (kN l' sl) ko = B2 at F6
  refine cut_set F6 N6 "R" (fun t => .int ((r ^^^ halfN spe sl ko l' : Nat) : Int) t) ?_ fun h7 tk7 t7 F7 N7 => ?_
  · clear h
    revert X
    k_fill
    intro X
    k_steps
    with_reducible rename Fr _ _ _ _ => F4
    refine SetPost.int F4 (by with_reducible assumption) ?_
    clear F4
    (repeat (with_reducible rename Same _ _ => hx; obtain ⟨hx⟩ := hx; subst hx))
    simp only [xor_nat, halfN, fN, sN, hB, Int.reduceToNat]
  clear F6 N6
  try dsimp only
  refine wpAny_execs_nil ?_
  refine h h7 tk7 _ t3 t7 F7 N7 rfl rfl ?_
  intro y h1 h2 h3 h4
  simp only [chain, if_neg h1, if_neg h2, if_neg h3, if_neg h4]
end
end Mine

/-! D12 -/
namespace Mine
theorem fresh_D12 : True := by
  w_top off
  exact True.intro
open PySem.Spec PySem.Calls
def turnN (spe : List (List Nat)) (sl : Nat) (xs ys : Nat → Nat) (i : Nat) (p : Nat × Nat) : Nat × Nat :=
  (p.1 ^^^ halfN spe sl (xs i) p.2, p.2 ^^^ halfN spe sl (ys i) (p.1 ^^^ halfN spe sl (xs i) p.2))
def passN (spe : List (List Nat)) (sl : Nat) (xs ys : Nat → Nat) (p : Nat × Nat) : Nat → Nat × Nat
  | 0 => p
  | i + 1 => turnN spe sl xs ys i (passN spe sl xs ys p i)
def roundsN (spe : List (List Nat)) (sl : Nat) (xs ys : Nat → Nat) (p : Nat × Nat) : Nat → Nat × Nat
  | 0 => p
  | n + 1 => ((passN spe sl xs ys (roundsN spe sl xs ys p n) 8).2, (passN spe sl xs ys (roundsN spe sl xs ys p n) 8).1)
def forOf : Option Stmt → Stmt
  | some (.While _ (_ :: f :: _) _ _) => f
  | _ => default
def forStmt (K : Frag) : Stmt := forOf (stmtsOf K 211)[9]?
def whileStmt (K : Frag) : Stmt := (stmtsOf K 211)[9]?.getD default
structure SwapPost (b : Heap) (Lc : Addr) (news : List (Addr × Obj)) (m' : Str → Option Value) (l r : Nat) (s : Shared) (f : Flow) (s' : Shared) : Prop where
  ex : f = .next ∧ ∃ h' tk' m₂, s' = { s with heap := h', toks := tk' } ∧ Fr b Lc h' m₂ ∧ News b Lc h' news ∧ (∃ t, m₂ "L" = some (.int (r : Nat) t)) ∧ (∃ t, m₂ "R" = some (.int (l : Nat) t)) ∧ ∀ y : Str, y ≠ "L" → y ≠ "R" → m₂ y = m' y
/-- the names that a pass sets -/
abbrev six : List Str := ["L", "R", "k", "B", "ks_even", "ks_odd"]

section
variable {w : World} {A : Around} {E : Value → Shared → Prop} {s : Shared} {Lc : Addr} {b : Heap} {p : Program} {loose : List Str} {mean : ExcName → Option Value} {mg mb : Str → Option Value} {m : Str → Option Value} {news : List (Addr × Obj)} {spe : List (List Nat)}
theorem Pairs8.keeps {h h' : Heap} {S : Addr} {xs ys : Nat → Nat} (H : Pairs8 h S xs ys) (F : Fr b Lc h m) (k : ∀ a o, a ≠ Lc → h.get? a = some o → h'.get? a = some o) : Pairs8 h' S xs ys := by
  obtain ⟨acc, c, e, h8, hi⟩ := H
  obtain ⟨o', es, ep, e', hd', _⟩ := F.ns
  refine ⟨acc, c, k _ _ (fun q => ?_) e, h8, fun i h => ?_⟩
  · rw [q, e'] at e; cases e; cases hd'
  · obtain ⟨t, ht, u, v, o, ho, hc, n, hd⟩ := hi i h
    refine ⟨t, ht, u, v, o, k _ _ (fun q => ?_) ho, hc, n, hd⟩
    rw [q, e'] at ho; cases ho; rw [hd'] at hd; cases hd
theorem list_eval {Q : Value → Shared → Prop} {S : Addr} {px : Pos} (X : (hd.heap_39 w.params).In b) (F : Fr b Lc s.heap m) (N : News b Lc s.heap news) (hS : m "ks_list" = some (.ref S)) (h : Q (.ref S) s) :
    wpAny (model PySem.Challenge.rw_aj5033_01.row.prog w) A (eval (.Name "ks_list" px) (desEnv (hd.heap_39 w.params) Lc)) Q E s := by
  have e : chain [("ks_list", .ref S)] m = m := chain_eq (by intro q hq; rw [List.mem_singleton.mp hq]; exact hS)
  rw [← e] at F
  dsimp only [chain] at F
  unfold desEnv
  conv in (scopeOf _ _) => whnf
  revert X
  k_fill
  intro X
  k_steps
  exact h

theorem for_walk {Q : Flow → Shared → Prop} {l r sl : Nat} {t0 t1 t2 : Tok} {S : Addr} {xs ys : Nat → Nat} (hh : A.handled = none) (X : (hd.heap_39 w.params).In b) (T : Top p loose mean mg mb b) (hSp : SpeIn w spe) (hsl : sl < 4294967296)
    (F : Fr b Lc s.heap m) (hL : m "L" = some (.int (l : Nat) t0)) (hR : m "R" = some (.int (r : Nat) t1)) (hsa : m "salt" = some (.int (sl : Nat) t2)) (hS : m "ks_list" = some (.ref S)) (hspe : ∀ q ∈ speL, m q.1 = some q.2)
    (hP : Pairs8 s.heap S xs ys)
    (h : ∀ (h' : Heap) (tk : Nat) (m' : Str → Option Value) (t t' : Tok), Fr b Lc h' m' → (∀ a o, a ≠ Lc → s.heap.get? a = some o → h'.get? a = some o) →
      m' "L" = some (.int ((passN spe sl xs ys (l, r) 8).1 : Nat) t) → m' "R" = some (.int ((passN spe sl xs ys (l, r) 8).2 : Nat) t') → (∀ y : Str, y ∉ six → m' y = m y) → Q .next { s with heap := h', toks := tk })
    (hE : PassesOwn (model PySem.Challenge.rw_aj5033_01.row.prog w) A (desEnv (hd.heap_39 w.params) Lc) E) :
    wpAny (model PySem.Challenge.rw_aj5033_01.row.prog w) A (exec (forStmt (hd.heap_39 w.params)) (desEnv (hd.heap_39 w.params) Lc)) Q E s := by
  conv in (forStmt _) => whnf
  refine for_pairs (xs := xs) (ys := ys) hh (fun i m₁ => (∃ t, m₁ "L" = some (.int ((passN spe sl xs ys (l, r) i).1 : Nat) t)) ∧ (∃ t, m₁ "R" = some (.int ((passN spe sl xs ys (l, r) i).2 : Nat) t)) ∧ ∀ y : Str, y ∉ six → m₁ y = m y) rfl rfl rfl F hP ⟨⟨_, hL⟩, ⟨_, hR⟩, fun _ _ => rfl⟩
    (list_eval X F (allNews_ok b Lc s.heap) hS ⟨rfl, rfl⟩) ?_ ?_ (fun _ => rfl) hE
  · rintro i m₁ h₁ tk u v news₁ hi ⟨⟨ta, ha⟩, ⟨tb, hb⟩, hm⟩ F₁ N₁
    have e : chain (("L", .int ((passN spe sl xs ys (l, r) i).1 : Nat) ta) :: ("R", .int ((passN spe sl xs ys (l, r) i).2 : Nat) tb) :: ("salt", .int (sl : Nat) t2) :: speL) m₁ = m₁ := by
      refine chain_eq fun q hq => ?_
      rcases List.mem_cons.mp hq with rfl | hq
      · exact ha
      rcases List.mem_cons.mp hq with rfl | hq
      · exact hb
      rcases List.mem_cons.mp hq with rfl | hq
      · rw [hm "salt" (by decide)]; exact hsa
      · have hn : ∀ q ∈ speL, q.1 ∉ six := by decide
        rw [hm _ (hn q hq)]; exact hspe q hq
    have F₂ : Fr b Lc h₁ (chain (turnL (ys i) (xs i) (passN spe sl xs ys (l, r) i).1 (passN spe sl xs ys (l, r) i).2 sl (fun n => match n with | 0 => v | 1 => u | 2 => ta | 3 => tb | _ => t2)) m₁) := by
      show Fr b Lc h₁ (fun z => if z = "ks_odd" then _ else if z = "ks_even" then _ else chain (("L", .int ((passN spe sl xs ys (l, r) i).1 : Nat) ta) :: ("R", .int ((passN spe sl xs ys (l, r) i).2 : Nat) tb) :: ("salt", .int (sl : Nat) t2) :: speL) m₁ z)
      rw [e]
      exact F₁
    refine turn_walk hh X T hSp hsl F₂ N₁ fun h' tk' m' t t' F' N' c1 c2 c3 => ⟨rfl, h', tk', m', rfl, F', N', ⟨t, c1⟩, ⟨t', c2⟩, fun y hy => ?_⟩
    have hy' := hy
    simp only [six, List.mem_cons, List.not_mem_nil, or_false, not_or] at hy'
    rw [c3 y hy'.1 hy'.2.1 hy'.2.2.1 hy'.2.2.2.1]
    show (if y = "ks_odd" then _ else if y = "ks_even" then _ else chain (("L", .int ((passN spe sl xs ys (l, r) i).1 : Nat) ta) :: ("R", .int ((passN spe sl xs ys (l, r) i).2 : Nat) tb) :: ("salt", .int (sl : Nat) t2) :: speL) m₁ y) = m y
    rw [e, if_neg hy'.2.2.2.2.2, if_neg hy'.2.2.2.2.1]
    exact hm y hy
  · rintro h' tk m' F' hk ⟨⟨t, ht⟩, ⟨t', ht'⟩, hm⟩
    exact h h' tk m' t t' F' hk ht ht' hm

theorem allNews_after {h₁ h' : Heap} {m₁ m' : Str → Option Value} (F₁ : Fr b Lc h₁ m₁) (F' : Fr b Lc h' m') (N : News b Lc h₁ news) (k : ∀ a o, a ≠ Lc → h₁.get? a = some o → h'.get? a = some o) : News b Lc h' news :=
  fun q hq => ⟨k _ _ (N q hq).2.1 (N q hq).1, (N q hq).2⟩

theorem while_walk {Q : Flow → Shared → Prop} {l r sl n : Nat} {t0 t1 t2 t3 : Tok} {S : Addr} {xs ys : Nat → Nat} (hh : A.handled = none) (X : (hd.heap_39 w.params).In b) (T : Top p loose mean mg mb b) (hSp : SpeIn w spe) (hsl : sl < 4294967296)
    (F : Fr b Lc s.heap m) (hL : m "L" = some (.int (l : Nat) t0)) (hR : m "R" = some (.int (r : Nat) t1)) (hsa : m "salt" = some (.int (sl : Nat) t2)) (hS : m "ks_list" = some (.ref S)) (hspe : ∀ q ∈ speL, m q.1 = some q.2)
    (hrn : m "rounds" = some (.int (n : Nat) t3)) (hP : Pairs8 s.heap S xs ys)
    (h : ∀ (h' : Heap) (tk : Nat) (m' : Str → Option Value) (t t' : Tok), Fr b Lc h' m' → (∀ a o, a ≠ Lc → s.heap.get? a = some o → h'.get? a = some o) →
      m' "L" = some (.int ((roundsN spe sl xs ys (l, r) n).1 : Nat) t) → m' "R" = some (.int ((roundsN spe sl xs ys (l, r) n).2 : Nat) t') → Q .next { s with heap := h', toks := tk })
    (hE : PassesOwn (model PySem.Challenge.rw_aj5033_01.row.prog w) A (desEnv (hd.heap_39 w.params) Lc) E) :
    wpAny (model PySem.Challenge.rw_aj5033_01.row.prog w) A (exec (whileStmt (hd.heap_39 w.params)) (desEnv (hd.heap_39 w.params) Lc)) Q E s := by
  conv in (whileStmt _) => whnf
  refine While_inv (n₀ := n) (news := allNews b Lc s.heap) (fun k m₁ news₁ => ∃ d, d + k = n ∧ news₁ = allNews b Lc s.heap ∧ (∃ t, m₁ "L" = some (.int ((roundsN spe sl xs ys (l, r) d).1 : Nat) t)) ∧ (∃ t, m₁ "R" = some (.int ((roundsN spe sl xs ys (l, r) d).2 : Nat) t)) ∧ (∃ t, m₁ "rounds" = some (.int (k : Nat) t)) ∧
    ∀ y : Str, y ∉ six → y ≠ "rounds" → m₁ y = m y) F (allNews_ok b Lc s.heap) ⟨0, by omega, rfl, ⟨_, hL⟩, ⟨_, hR⟩, ⟨_, hrn⟩, fun _ _ _ => rfl⟩ ?_ hE
  rintro k m₁ news₁ h₁ tk₁ F₁ N₁ ⟨d, hdn, rfl, ⟨ta, ha⟩, ⟨tb, hb⟩, ⟨tc, hc⟩, hm⟩
  have e : chain [("rounds", .int (k : Nat) tc)] m₁ = m₁ := chain_eq (by intro q hq; rw [List.mem_singleton.mp hq]; exact hc)
  have F₂ := F₁
  rw [← e] at F₂
  dsimp only [chain] at F₂
  cases k with
  | zero =>
    obtain rfl : d = n := by omega
    refine wpAny_mono (Q := fun b s₂ => b = false ∧ s₂ = { s with heap := h₁, toks := tk₁ }) ?_ (fun b s₂ hb₂ => ?_) fun _ _ x => x
    · clear F F₁ N₁ h hE
      have N₂ := allNews_ok b Lc h₁
      unfold desEnv
      conv in (scopeOf _ _) => whnf
      revert X
      k_fill
      intro X
      k_steps
    · obtain ⟨rfl, rfl⟩ := hb₂
      rw [if_neg (by decide)]
      exact h h₁ tk₁ m₁ ta tb F₁ (allNews_keep F F₁ N₁ fun _ x => x) ha hb
  | succ k =>
    refine wpAny_mono (Q := fun b s₂ => b = true ∧ s₂ = { s with heap := h₁, toks := tk₁ }) ?_ (fun b s₂ hb₂ => ?_) fun _ _ x => x
    · clear F F₁ N₁ h hE
      have N₂ := allNews_ok b Lc h₁
      unfold desEnv
      conv in (scopeOf _ _) => whnf
      revert X
      k_fill
      intro X
      k_steps
    · obtain ⟨rfl, rfl⟩ := hb₂
      rw [if_pos rfl]
      refine cut_set F₂ N₁ "rounds" (fun t => .int ((k : Nat) : Int) t) ?_ fun h3 tk3 t3 F3 N3 => ?_
      · clear h hE F₁
        unfold desEnv
        conv in (scopeOf _ _) => whnf
        revert X
        k_fill
        intro X
        k_steps
        with_reducible rename Fr _ _ _ _ => F4
        refine SetPost.int F4 (by with_reducible assumption) ?_
        omega
      have k3 := allNews_keep F F3 N3 fun _ x => x
      refine wpAny_execs_cons ?_
      refine for_walk (S := S) (xs := xs) (ys := ys) hh X T hSp hsl F3 ha hb (t2 := t2) ?_ ?_ ?_ ?_ ?_ hE
      · exact (hm "salt" (by decide) (by decide)).trans hsa
      · exact (hm "ks_list" (by decide) (by decide)).trans hS
      · intro q hq
        have hn : ∀ q ∈ speL, q.1 ∉ six ∧ q.1 ≠ "rounds" := by decide
        show (if q.1 = "rounds" then _ else if q.1 = "rounds" then _ else m₁ q.1) = _
        rw [if_neg (hn q hq).2, if_neg (hn q hq).2, hm _ (hn q hq).1 (hn q hq).2]
        exact hspe q hq
      · exact hP.keeps F k3
      · intro h' tk m' t t' F' k' c1 c2 c3
        have hk' := allNews_after F3 F' N3 k'
        have e' : chain [("L", .int ((passN spe sl xs ys (roundsN spe sl xs ys (l, r) d) 8).1 : Nat) t), ("R", .int ((passN spe sl xs ys (roundsN spe sl xs ys (l, r) d) 8).2 : Nat) t')] m' = m' := by
          refine chain_eq fun q hq => ?_
          rcases List.mem_cons.mp hq with rfl | hq
          · exact c1
          · rw [List.mem_singleton.mp hq]; exact c2
        have F₅ := F'
        rw [← e'] at F₅
        dsimp only [chain] at F₅ ⊢
        refine wpAny_execs_cons (wpAny_mono (Q := SwapPost b Lc (allNews b Lc s.heap) m' (passN spe sl xs ys (roundsN spe sl xs ys (l, r) d) 8).1 (passN spe sl xs ys (roundsN spe sl xs ys (l, r) d) 8).2 s) ?_ (fun f s' hf => ?_) fun _ _ x => x)
        · clear h hE F F₁ F₂ F3 N3 N₁ k3 k' F'
          obtain ⟨ah, ad, af, ag, au⟩ := A
          dsimp only at hh
          subst hh
          unfold desEnv
          conv in (scopeOf _ _) => whnf
          revert X
          k_fill
          intro X
          k_steps
          with_reducible rename Fr _ _ _ _ => F4
          with_reducible rename News _ _ _ _ => N4
          refine ⟨rfl, _, _, _, rfl, F4, fun q hq => N4 q (.tail _ hq), ⟨_, rfl⟩, ⟨_, rfl⟩, fun y h1 h2 => ?_⟩
          simp only [if_neg h1, if_neg h2]
        · obtain ⟨rfl, h₆, tk₆, m₂, rfl, F₆, N₆, ⟨t5, d1⟩, ⟨t6, d2⟩, d3⟩ := hf.ex
          refine wpAny_execs_nil ⟨rfl, h₆, tk₆, m₂, _, k, rfl, F₆, N₆, Nat.lt_succ_self k, d + 1, by omega, rfl, ⟨t5, d1⟩, ⟨t6, d2⟩, ⟨t3, ?_⟩, fun y h1 h2 => ?_⟩
          · rw [d3 _ (by decide) (by decide), c3 _ (by decide)]
            rfl
          · have h1' := h1
            simp only [six, List.mem_cons, List.not_mem_nil, or_false, not_or] at h1'
            rw [d3 y h1'.1 h1'.2.1, c3 y h1, if_neg h2, if_neg h2]
            exact hm y h1 h2
end
end Mine

/-! D13 -/
set_option linter.unusedSimpArgs false
namespace Mine
local macro_rules | `(tactic| walk_at "idle D13 0") => `(tactic| fail "idle")
theorem fresh_D13 : True := by
  w_top off
  exact True.intro
open PySem.Spec PySem.Calls
def saltN (x : Nat) : Nat := (x &&& 63) <<< 26 ||| (x &&& 4032) <<< 12 ||| (x &&& 258048) >>> 2 ||| (x &&& 16515072) >>> 16
def lRaw (x : Nat) : Nat := x >>> 31 &&& 2863311530 ||| x &&& 1431655765
def rRaw (x : Nat) : Nat := x >>> 32 &&& 2863311530 ||| x >>> 1 &&& 1431655765
def cN (l r : Nat) : Nat := l >>> 3 &&& 1085102592318504960 ||| l <<< 33 &&& 17361641477096079360 ||| r >>> 35 &&& 252645135 ||| r <<< 1 &&& 4042322160
theorem and_lit (a n : Nat) : Builtin.bitAnd (a : Int) (OfNat.ofNat n : Int) = ((a &&& (OfNat.ofNat n : Nat) : Nat) : Int) := and_nat a n

theorem or_c {a b : Int} {m n : Nat} (h : a = (m : Int)) (h' : b = (n : Int)) : Builtin.bitOr a b = ((m ||| n : Nat) : Int) := by rw [h, h', or_nat]
theorem and_c {a b : Int} {m n : Nat} (h : a = (m : Int)) (h' : b = (n : Int)) : Builtin.bitAnd a b = ((m &&& n : Nat) : Int) := by rw [h, h', and_nat]
theorem xor_c {a b : Int} {m n : Nat} (h : a = (m : Int)) (h' : b = (n : Int)) : Builtin.bitXor a b = ((m ^^^ n : Nat) : Int) := by rw [h, h', xor_nat]
theorem shr_c {a k : Int} {m j : Nat} (h : a = (m : Int)) (h' : k.toNat = j) : a.fdiv (2 ^ k.toNat) = ((m >>> j : Nat) : Int) := by rw [h, h', shr_nat]
theorem shl_c {a k : Int} {m j : Nat} (h : a = (m : Int)) (h' : k.toNat = j) : a * (2 ^ k.toNat) = ((m <<< j : Nat) : Int) := by rw [h, h', shl_nat]
theorem lit_c (n : Nat) : (OfNat.ofNat n : Int) = ((OfNat.ofNat n : Nat) : Int) := rfl

theorem toNat_c {a : Int} {n : Nat} (h : a = (n : Int)) : a.toNat = n := by rw [h, Int.toNat_natCast]
abbrev NatE (a : Int) : Prop := ∃ n : Nat, a = (n : Int)
theorem or_e {a b : Int} : NatE a → NatE b → NatE (Builtin.bitOr a b) := fun ⟨_, h⟩ ⟨_, h'⟩ => ⟨_, or_c h h'⟩
theorem and_e {a b : Int} : NatE a → NatE b → NatE (Builtin.bitAnd a b) := fun ⟨_, h⟩ ⟨_, h'⟩ => ⟨_, and_c h h'⟩
theorem shr_e {a k : Int} : NatE a → NatE (a.fdiv (2 ^ k.toNat)) := fun ⟨_, h⟩ => ⟨_, shr_c h rfl⟩
theorem shl_e {a k : Int} : NatE a → NatE (a * (2 ^ k.toNat)) := fun ⟨_, h⟩ => ⟨_, shl_c h rfl⟩
theorem lit_e (n : Nat) : NatE (OfNat.ofNat n : Int) := ⟨_, lit_c n⟩
theorem var_e (n : Nat) : NatE (n : Int) := ⟨_, rfl⟩

/-- the cipher, as numbers -/
def desN (spe ie cf : List (List Nat)) (xs ys : Nat → Nat) (src salt n : Nat) : Nat :=
  perm cf (cN (roundsN spe (saltN salt) xs ys (perm ie (lRaw src), perm ie (rRaw src)) n).1 (roundsN spe (saltN salt) xs ys (perm ie (lRaw src), perm ie (rRaw src)) n).2)
def desTail (K : Frag) : List Stmt := (stmtsOf K 211).drop 7

structure IfPost (b : Heap) (Lc : Addr) (news : List (Addr × Obj)) (m : Str → Option Value) (l r : Nat) (s : Shared) (f : Flow) (s' : Shared) : Prop where
  ex : f = .next ∧ ∃ h' tk' m₂, s' = { s with heap := h', toks := tk' } ∧ Fr b Lc h' m₂ ∧ News b Lc h' news ∧ (∃ t, m₂ "L" = some (.int (l : Nat) t)) ∧ (∃ t, m₂ "R" = some (.int (r : Nat) t)) ∧ ∀ y : Str, y ≠ "L" → y ≠ "R" → m₂ y = m y

section
variable {b h' : Heap} {Lc : Addr} {news : List (Addr × Obj)} {m : Str → Option Value} {l r : Nat} {s : Shared} {tk : Nat} {cr cl : Int} {tr tl : Tok} {v v' : Option Value}
theorem IfPost.intro (F : Fr b Lc h' (fun y => if y = "R" then some (.int cr tr) else if y = "L" then some (.int cl tl) else m y)) (N : News b Lc h' news) (er : cr = (r : Int)) (el : cl = (l : Int)) : IfPost b Lc news m l r s .next { s with heap := h', toks := tk } := by
  subst er el
  exact ⟨rfl, h', tk, _, rfl, F, N, ⟨tl, rfl⟩, ⟨tr, rfl⟩, fun y h1 h2 => by simp only [if_neg h1, if_neg h2]⟩
theorem IfPost.intro4 (F : Fr b Lc h' (fun y => if y = "R" then some (.int cr tr) else if y = "R" then v else if y = "L" then some (.int cl tl) else if y = "L" then v' else m y)) (N : News b Lc h' news) (er : cr = (r : Int)) (el : cl = (l : Int)) : IfPost b Lc news m l r s .next { s with heap := h', toks := tk } := by
  subst er el
  exact ⟨rfl, h', tk, _, rfl, F, N, ⟨tl, rfl⟩, ⟨tr, rfl⟩, fun y h1 h2 => by simp only [if_neg h1, if_neg h2]⟩
end
theorem perm_int (w : World) (c : Int) (tc : Tok) (tab : Addr) (rows : List (List Nat)) (hT : ∀ h, (hd.heap_39 w.params).In h → TabAt h tab rows) (e : ∃ n : Nat, c = (n : Int)) : Gro w 1 152 [.int c tc, .ref tab] (fun t => .int (perm rows c.toNat : Nat) t) := by
  obtain ⟨n, rfl⟩ := e
  exact perm_gro w n tc tab rows hT

local macro_rules | `(tactic| walk_at "binaryOp RShift int int") => `(tactic| (k_here; (with_reducible refine rshift_int ?kb1 ?_); (case kb1 => decide)))
local macro_rules | `(tactic| walk_at "call ref") => `(tactic| (k_here; refine' gro_use (perm_int _ _ _ _ _ ?hT ?hc) ?hh ?hd ?F ?N ?X ?T ?_; (case hT => assumption); (case hc => (repeat' (first | with_reducible refine or_e ?_ ?_ | with_reducible refine and_e ?_ ?_ | with_reducible refine shr_e ?_ | with_reducible refine shl_e ?_ | with_reducible exact lit_e _ | with_reducible exact var_e _))); (case hh => assumption); (case hd => assumption); (case F => k_asm); (case N => k_asm); (case X => k_asm); (case T => k_asm); intro t h' tk F' N'))

theorem small_and (a n : Nat) (hn : n < 18446744073709551616) : (Builtin.bitAnd (a : Int) (OfNat.ofNat n : Int)).natAbs < 2 ^ 64 := by
  rw [and_lit, Int.natAbs_natCast]
  exact Nat.lt_of_le_of_lt (Nat.and_le_right) hn
theorem small_le {n : Nat} (h : (n : Int) ≤ 18446744073709551615) : (n : Int).natAbs < 2 ^ 64 := by
  rw [Int.natAbs_natCast]
  omega
local macro_rules | `(tactic| walk_at "binaryOp LShift int int") => `(tactic| (k_here; (with_reducible refine lshift_int_small ?kb1 ?kb2 ?kb3 ?_); (case kb1 => decide); (case kb2 => decide); (case kb3 => (first | exact small_le (by assumption) | exact small_and _ _ (by decide)))))

section
variable {w : World} {A : Around} {E : Value → Shared → Prop} {s : Shared} {Lc : Addr} {b : Heap} {p : Program} {loose : List Str} {mean : ExcName → Option Value} {mg mb : Str → Option Value} {m : Str → Option Value} {spe ie cf : List (List Nat)}
theorem tail_walk {Q : Flow → Shared → Prop} {src salt n : Nat} {t0 t1 tr : Tok} {S : Addr} {xs ys : Nat → Nat} (hh : A.handled = none) (hdp : A.depth + 1 < recursionLimit) (X : (hd.heap_39 w.params).In b) (T : Top p loose mean mg mb b) (hSp : SpeIn w spe)
    (hIE : ∀ h, (hd.heap_39 w.params).In h → TabAt h 119 ie) (hCF : ∀ h, (hd.heap_39 w.params).In h → TabAt h 145 cf) (hie0 : perm ie 0 = 0)
    (b3 : (salt : Int) ≤ 16777215) (hsl : saltN salt < 4294967296)
    (B1 : ((roundsN spe (saltN salt) xs ys (perm ie (lRaw src), perm ie (rRaw src)) n).1 : Int) ≤ 18446744073709551615) (B2 : ((roundsN spe (saltN salt) xs ys (perm ie (lRaw src), perm ie (rRaw src)) n).2 : Int) ≤ 18446744073709551615)
    (F : Fr b Lc s.heap m) (hsa : m "salt" = some (.int (salt : Nat) t0)) (hsr : m "source" = some (.int (src : Nat) t1)) (hS : m "ks_list" = some (.ref S)) (hspe : ∀ q ∈ speL, m q.1 = some q.2)
    (hrn : m "rounds" = some (.int (n : Nat) tr)) (hP : Pairs8 s.heap S xs ys)
    (h : ∀ (h' : Heap) (tk : Nat) (t : Tok), (∀ a o, a ≠ Lc → s.heap.get? a = some o → h'.get? a = some o) → Q (.ret (.int (desN spe ie cf xs ys src salt n : Nat) t)) { s with heap := h', toks := tk })
    (hE : PassesOwn (model PySem.Challenge.rw_aj5033_01.row.prog w) A (desEnv (hd.heap_39 w.params) Lc) E) :
    wpAny (model PySem.Challenge.rw_aj5033_01.row.prog w) A (execs (desTail (hd.heap_39 w.params)) (desEnv (hd.heap_39 w.params) Lc)) Q E s := by
  obtain ⟨ah, ad, af, ag, au⟩ := A
  dsimp only at hh hdp
  subst hh
  have hhA : ({ handled := none, depth := ad, frames := af, guards := ag, units := au } : Around).handled = none := rfl
  have N := allNews_ok b Lc s.heap
  conv in (desTail _) => whnf
  have F₁ := F
  rw [← chain_eq (m := m) (l := [("salt", .int (salt : Nat) t0)]) (by intro q hq; rw [List.mem_singleton.mp hq]; exact hsa)] at F₁
  dsimp only [chain] at F₁
  refine cut_set F₁ N "salt" (fun t => .int ((saltN salt : Nat) : Int) t) ?_ fun h2 tk2 t2 F2 N2 => ?_
  · clear h hE F
    unfold desEnv
    conv in (scopeOf _ _) => whnf
    revert X
    k_fill
    intro X
    k_steps
    with_reducible rename Fr _ _ _ _ => F4
    refine SetPost.int F4 (by with_reducible assumption) ?_
    clear F4
    unfold saltN
    (repeat' (first | with_reducible refine or_c ?_ ?_ | with_reducible refine and_c ?_ ?_ | with_reducible refine xor_c ?_ ?_ | with_reducible refine shr_c ?_ ?_ | with_reducible refine shl_c ?_ ?_ | with_reducible exact lit_c _ | exact rfl))
  have k2 := allNews_keep F F2 N2 fun _ x => x
  have F₃ := F2
  rw [← chain_eq (m := m) (l := [("source", .int (src : Nat) t1)]) (by intro q hq; rw [List.mem_singleton.mp hq]; exact hsr)] at F₃
  dsimp only [chain] at F₃
  refine wpAny_execs_cons (wpAny_mono (Q := IfPost b Lc (allNews b Lc s.heap) (fun y => if y = "salt" then some (.int (saltN salt : Nat) t2) else if y = "salt" then some (.int (salt : Nat) t0) else if y = "source" then some (.int (src : Nat) t1) else m y) (perm ie (lRaw src)) (perm ie (rRaw src)) { s with heap := h2, toks := tk2 }) ?_ (fun f s' hf => ?_) fun _ _ x => x)
  · clear h hE F F2 F₁ k2
    unfold desEnv
    conv in (scopeOf _ _) => whnf
    revert X
    k_fill
    intro X
    k_steps
    · with_reducible rename Fr _ _ _ _ => F4
      rename (src : Int) = 0 => h0
      obtain rfl : src = 0 := by omega
      refine IfPost.intro F4 (by with_reducible assumption) ?_ ?_
      · rw [show perm ie (rRaw 0) = 0 from hie0]
        rfl
      · rw [show perm ie (lRaw 0) = 0 from hie0]
        rfl
    · with_reducible rename Fr _ _ _ _ => F4
      refine IfPost.intro4 F4 (by with_reducible assumption) ?_ ?_
      · refine congrArg (fun n : Nat => ((perm ie n : Nat) : Int)) (toNat_c ?_)
        unfold rRaw
        (repeat' (first | with_reducible refine or_c ?_ ?_ | with_reducible refine and_c ?_ ?_ | with_reducible refine xor_c ?_ ?_ | with_reducible refine shr_c ?_ ?_ | with_reducible refine shl_c ?_ ?_ | with_reducible exact lit_c _ | exact rfl))
      · refine congrArg (fun n : Nat => ((perm ie n : Nat) : Int)) (toNat_c ?_)
        unfold lRaw
        (repeat' (first | with_reducible refine or_c ?_ ?_ | with_reducible refine and_c ?_ ?_ | with_reducible refine xor_c ?_ ?_ | with_reducible refine shr_c ?_ ?_ | with_reducible refine shl_c ?_ ?_ | with_reducible exact lit_c _ | exact rfl))
  obtain ⟨rfl, h3, tk3, m₃, rfl, F₄, N₄, ⟨t3, c1⟩, ⟨t4, c2⟩, c3⟩ := hf.ex
  have k4 := allNews_keep F F₄ N₄ fun _ x => x
  have c3' : ∀ y : Str, y ≠ "L" → y ≠ "R" → y ≠ "salt" → y ≠ "source" → m₃ y = m y := fun y h1 h2 h3 h4 => by
    rw [c3 y h1 h2, if_neg h3, if_neg h3, if_neg h4]
  dsimp only
  refine wpAny_execs_cons ?_
  refine while_walk (S := S) (xs := xs) (ys := ys) (n := n) rfl X T hSp hsl F₄ c1 c2 (t2 := t2) ?_ ?_ ?_ (t3 := tr) ?_ (hP.keeps F k4) ?_ hE
  · exact c3 _ (by decide) (by decide)
  · exact (c3' _ (by decide) (by decide) (by decide) (by decide)).trans hS
  · intro q hq
    have hn : ∀ q ∈ speL, q.1 ≠ "L" ∧ q.1 ≠ "R" ∧ q.1 ≠ "salt" ∧ q.1 ≠ "source" := by decide
    rw [c3' _ (hn q hq).1 (hn q hq).2.1 (hn q hq).2.2.1 (hn q hq).2.2.2]
    exact hspe q hq
  · exact (c3' _ (by decide) (by decide) (by decide) (by decide)).trans hrn
  intro h5 tk5 m₅ t5 t6 F₅ k5 d1 d2
  generalize hLL : (roundsN spe (saltN salt) xs ys (perm ie (lRaw src), perm ie (rRaw src)) n).1 = LL at B1 d1
  generalize hRR : (roundsN spe (saltN salt) xs ys (perm ie (lRaw src), perm ie (rRaw src)) n).2 = RR at B2 d2
  have N₅ := allNews_ok b Lc h5
  have F₆ := F₅
  rw [← chain_eq (m := m₅) (l := [("L", .int (LL : Nat) t5), ("R", .int (RR : Nat) t6)]) (by
    intro q hq
    rcases List.mem_cons.mp hq with rfl | hq
    · exact d1
    · rw [List.mem_singleton.mp hq]; exact d2)] at F₆
  dsimp only [chain] at F₆ ⊢
  refine cut_set F₆ N₅ "C" (fun t => .int ((cN LL RR : Nat) : Int) t) ?_ fun h7 tk7 t7 F7 N7 => ?_
  · clear h hE F F₁ F₄ F₅ F2 F₃ k2 k4 k5 hf
    unfold desEnv
    conv in (scopeOf _ _) => whnf
    revert X
    k_fill
    intro X
    k_steps
    with_reducible rename Fr _ _ _ _ => F4
    refine SetPost.int F4 (by with_reducible assumption) ?_
    clear F4
    unfold cN
    (repeat' (first | with_reducible refine or_c ?_ ?_ | with_reducible refine and_c ?_ ?_ | with_reducible refine xor_c ?_ ?_ | with_reducible refine shr_c ?_ ?_ | with_reducible refine shl_c ?_ ?_ | with_reducible exact lit_c _ | exact rfl))
  have k7 := allNews_keep F₆ F7 N7 fun _ x => x
  have N₇ := allNews_ok b Lc h7
  have kk : ∀ h' m', Fr b Lc h' m' → News b Lc h' (allNews b Lc h7) → ∀ a o, a ≠ Lc → s.heap.get? a = some o → h'.get? a = some o := fun h' m' F' N' a o ha e => allNews_keep F7 F' N' (fun _ x => x) a o ha (k7 _ _ ha (k5 _ _ ha (k4 _ _ ha e)))
  have ee : perm cf (((cN LL RR : Nat) : Int)).toNat = desN spe ie cf xs ys src salt n := by
    rw [Int.toNat_natCast, ← hLL, ← hRR]
    rfl
  dsimp only
  unfold desEnv
  conv in (scopeOf _ _) => whnf
  clear hE F F₁ F₄ F₅ F2 F₃ F₆
  revert X
  k_fill
  intro X
  k_steps
  with_reducible rename Fr _ _ _ _ => F8
  with_reducible rename News _ _ _ _ => N8
  rw [ee]
  exact h _ _ _ (kk _ _ F8 N8)
end
end Mine

/-! D14 -/
namespace Mine
theorem fresh_D14 : True := by
  w_top off
  exact True.intro
open PySem.Spec PySem.Calls
structure TStop (P : Prop) : Prop where
  get : P
local macro_rules | `(tactic| cell_enter) => `(tactic| (refine' enterG ?k0 ?k1 ?k2 ?k3 ?k4 ?k6 ?k7 ?k8 ?k9 ?kB ?_ ?c2 ?c3 ?c4 ?c5; (case k0 => assumption); (case k1 => assumption); (case k2 => assumption); (case k3 => assumption); (case k4 => exact Top.nolimit (by assumption)); (case k6 => k_is); (case k7 => k_is); (case k8 => (dsimp only; omega)); (case k9 => first | exact BindsTo.of_eq rfl | exact binds_K (by with_reducible assumption) rfl (by k_is) rfl rfl rfl); (case c5 => decide); (case kB => exact locs rfl); (case c2 => exact rfl); (case c3 => exact rfl); (case c4 => exact rfl); k_whole; intro h' F' N'; (try dsimp only); (try k_fold)))
local macro_rules | `(tactic| walk_at "execs cons") => `(tactic| (k_here; (with_reducible show wpAny _ _ (execs (Stmt.Assign [Expr.Name (Str.ofString "salt") _] _ _ :: _) _) _ _ _); refine' TStop.get ?_))
abbrev desQual : Str := "des_encrypt_int_block.<locals>._iter_key_schedule"

theorem des_walk (w : World) (g : Heap) (news : List (Addr × Obj)) (ps0 : Array Value) (key src salt n : Nat) (t1 t2 t3 t4 : Tok) (b1 : (key : Int) ≤ 18446744073709551615) (b2 : (src : Int) ≤ 18446744073709551615) (b3 : (salt : Int) ≤ 16777215) (b4 : 1 ≤ (n : Int))
   (p : Program) (loose : List Str) (mean : ExcName → Option Value) (mg mb : Str → Option Value) (A : Around) (s : Shared) (R : Result → Shared → Prop)
   (rs : List Addr) (ps : List (List (List Nat) × List (List Nat))) (spe ie cf : List (List Nat))
   (hP : PairsIn w rs ps) (hrs : ∀ h, (hd.heap_39 w.params).In h → h.IsTuple 110 (rs.map Value.ref).toArray) (hSp : SpeIn w spe)
    (hIE : ∀ h, (hd.heap_39 w.params).In h → TabAt h 119 ie) (hCF : ∀ h, (hd.heap_39 w.params).In h → TabAt h 145 cf) (hie0 : perm ie 0 = 0) (hsl : saltN salt < 4294967296)
    (B1 : ((roundsN spe (saltN salt) (ksE ps key) (ksO ps key) (perm ie (lRaw src), perm ie (rRaw src)) n).1 : Int) ≤ 18446744073709551615) (B2 : ((roundsN spe (saltN salt) (ksE ps key) (ksO ps key) (perm ie (lRaw src), perm ie (rRaw src)) n).2 : Int) ≤ 18446744073709551615)
   (hh : A.handled = none) (hdp : A.depth + 6 < recursionLimit) (X : (hd.heap_39 w.params).In g) (T : Top p loose mean mg mb g) (C : CodeHd g 210 206)
   (hg : ∀ b o, g.get? b = some o → s.heap.get? b = some o) (hsz : g.objs.size ≤ s.heap.objs.size)
   (N : ∀ q ∈ ((206, tabObj ps0) :: news : List (Addr × Obj)), s.heap.get? q.1 = some q.2 ∧ g.get? q.1 = none) (hne : ∀ q ∈ news, q.1 ≠ 206)
   (hall : ∀ a o, a ≠ 206 → s.heap.get? a = some o → g.get? a = none → (a, o) ∈ news)
   (hps : ps0 = #[] ∨ ∃ c', ps0 = #[rawInt 97, rawInt 4, .ref c'] ∧ ∃ oc vs t, (c', oc) ∈ news ∧ oc.data = .fields vs ∧ vs[1]? = some (.str desQual t))
   (hret : ∀ (t : Tok) (h' : Heap) (tk' : Nat), (∀ a o, a ≠ 206 → s.heap.get? a = some o → h'.get? a = some o) → TabSt g h' 206 97 4 desQual →
     R (.ok (.ret (.int (desN spe ie cf (ksE ps key) (ksO ps key) src salt n : Nat) t))) { s with heap := h', toks := tk', gens := s.gens.push .finished }) :
   codeAny (model PySem.Challenge.rw_aj5033_01.row.prog w) A (.call (.ref 211) ⟨[.int key t1, .int src t2, .int salt t3, .int n t4], []⟩) R s := by
  have hK : ∀ (h' : Heap) (m' : Str → Option Value) (ns : List (Addr × Obj)), Fr g s.heap.objs.size h' m' → News g s.heap.objs.size h' ns → (∀ q ∈ news, q ∈ ns) → ∀ a o, a ≠ 206 → s.heap.get? a = some o → h'.get? a = some o := fun h' m' ns F' N' hs a o ha e => by
    cases q : g.get? a with
    | some o' =>
      have := hg a o' q
      rw [e] at this; cases this
      exact F'.keep a o q
    | none => exact (N' _ (hs _ (hall a o ha e q))).1
  have hltL : ∀ a o, s.heap.get? a = some o → a ≠ s.heap.objs.size := fun a o e => Nat.ne_of_lt (Heap.lt_size e)
  obtain ⟨ah, ad, af, ag, au⟩ := A
  dsimp only at hh hdp
  subst hh
  revert X
  k_fill
  intro X
  have Xs := Frag.In.keeps X hg
  k_dflt cell_enter
  clear Xs
  k_steps
  with_reducible rename Fr _ _ _ _ => F1
  with_reducible rename News _ _ _ _ => N1
  refine nestDef_K rfl rfl rfl (nest_any (qual := desQual) F1 N1 hne T C rfl hps rfl fun f c' oc vs tq ctv doc h2 tk2 F2 N2 hd2 hv2 => ?_)
  clear F1 N1
  k_steps
  with_reducible rename Fr _ _ _ _ => F3
  with_reducible rename News _ _ _ _ => N3
  have hc3 := codeRec_news N3 (.tail _ (.head _)) hd2 hv2
  refine call_genfn F3 N3 T.nolimit (show ad + 1 < recursionLimit by omega) (N3 _ (.head _)).1 hc3 (BindsTo.of_eq rfl) (locs rfl) rfl rfl rfl (by decide) fun L' a h4 tk4 F4 N4 hLL hnL hgL hns hgen haL hk4 hL4 => ?_
  clear F3 N3 hc3
  k_steps
  refine list_gen (b := g) (G := s.gens) (key := key) rfl (show ad + 1 + 3 < recursionLimit by omega) X T hgL hP hrs hns rfl F4.keep hgen haL rfl fun h5 tk5 hks hk5 => ?_
  have F5 : Fr g s.heap.objs.size h5 _ := ⟨F4.ns.at' fun o e => hk5 _ _ hLL e, fun a o e => hk5 _ _ (fun q => by rw [q, Heap.get?_none_of_le hgL] at e; cases e) (F4.keep a o e), F4.above⟩
  have N5 : News g s.heap.objs.size h5 _ := fun q hq => ⟨hk5 _ _ (hnL q hq) (N4 q hq).1, (N4 q hq).2⟩
  have N6 := allNews_ok g s.heap.objs.size h5
  have hN5 : ∀ (h' : Heap) (m' : Str → Option Value), Fr g s.heap.objs.size h' m' → News g s.heap.objs.size h' (allNews g s.heap.objs.size h5) → ∀ a o, a ≠ s.heap.objs.size → h5.get? a = some o → h'.get? a = some o := fun h' m' F' N' => allNews_keep F5 F' N' fun _ x => x
  clear F4 N4
  have N5' := TStop.mk N5
  have F5' := TStop.mk F5
  clear N5
  k_steps
  with_reducible rename Fr _ _ _ _ => F7
  with_reducible rename News _ _ _ _ => N7
  have k7 := hN5 _ _ F7 N7
  refine TStop.mk ?_
  refine tail_walk (w := w) (n := n) (t0 := t3) (t1 := t2) (tr := t4) (S := h4.objs.size) (xs := ksE ps key) (ys := ksO ps key) (src := src) (salt := salt) rfl (show ad + 1 + 1 < recursionLimit by omega) X T hSp hIE hCF hie0 b3 hsl B1 B2 F7 rfl rfl rfl (fun q hq => ?_) rfl ?_ ?_ ?_
  · simp only [List.mem_cons, List.not_mem_nil, or_false] at hq
    rcases hq with rfl | rfl | rfl | rfl | rfl | rfl | rfl | rfl <;> rfl
  · exact Pairs8.keeps (show Pairs8 h5 _ (ksE ps key) (ksO ps key) from hks) F5'.get k7
  · intro h8 tk8 t8 k8
    have N5 := N5'.get
    have k58 : ∀ a o, a ≠ s.heap.objs.size → h5.get? a = some o → h8.get? a = some o := fun a o ha e => k8 a o ha (k7 a o ha e)
    refine hret t8 h8 tk8 (fun a o ha e => k58 a o (hltL a o e) (hK h5 _ _ F5'.get N5 (fun q hq => .tail _ (.tail _ (.tail _ hq))) a o ha e)) ?_
    have e2 := N5 _ (.tail _ (.tail _ (.head _)))
    have e1 := N5 _ (.tail _ (.head _))
    exact ⟨_, k58 _ _ e2.2.1 e2.1, .inr ⟨c', rfl, ⟨c', oc, vs, tq, rfl, k58 _ _ e1.2.1 e1.1, hd2, hv2⟩, e1.2.2⟩⟩
  · passes_own
end Mine

/-! D14b -/
namespace Mine
local macro_rules | `(tactic| walk_at "idle D14b 0") => `(tactic| fail "idle")
theorem fresh_D14b : True := by
  w_top off
  exact True.intro
open PySem.Spec PySem.Calls
local macro_rules | `(tactic| cell_enter) => `(tactic| (refine' enterG ?k0 ?k1 ?k2 ?k3 ?k4 ?k6 ?k7 ?k8 ?k9 ?kB ?_ ?c2 ?c3 ?c4 ?c5; (case k0 => assumption); (case k1 => assumption); (case k2 => assumption); (case k3 => assumption); (case k4 => exact Top.nolimit (by assumption)); (case k6 => k_is); (case k7 => k_is); (case k8 => (dsimp only; omega)); (case k9 => first | exact BindsTo.of_eq rfl | exact binds_K (by with_reducible assumption) rfl (by k_is) rfl rfl rfl); (case c5 => decide); (case kB => exact locs rfl); (case c2 => exact rfl); (case c3 => exact rfl); (case c4 => exact rfl); k_whole; intro h' F' N'; (try dsimp only); (try k_fold)))
local macro_rules | `(tactic| walk_at "execs cons") => `(tactic| (k_here; (with_reducible show wpAny _ _ (execs (Stmt.Assign [Expr.Name (Str.ofString "salt") _] _ _ :: _) _) _ _ _); refine' TStop.get ?_))

theorem des_walk3 (w : World) (g : Heap) (news : List (Addr × Obj)) (ps0 : Array Value) (key src salt : Nat) (t1 t2 t3 : Tok) (b1 : (key : Int) ≤ 18446744073709551615) (b2 : (src : Int) ≤ 18446744073709551615) (b3 : (salt : Int) ≤ 16777215)
   (p : Program) (loose : List Str) (mean : ExcName → Option Value) (mg mb : Str → Option Value) (A : Around) (s : Shared) (R : Result → Shared → Prop)
   (rs : List Addr) (ps : List (List (List Nat) × List (List Nat))) (spe ie cf : List (List Nat))
   (hP : PairsIn w rs ps) (hrs : ∀ h, (hd.heap_39 w.params).In h → h.IsTuple 110 (rs.map Value.ref).toArray) (hSp : SpeIn w spe)
    (hIE : ∀ h, (hd.heap_39 w.params).In h → TabAt h 119 ie) (hCF : ∀ h, (hd.heap_39 w.params).In h → TabAt h 145 cf) (hie0 : perm ie 0 = 0) (hsl : saltN salt < 4294967296)
    (B1 : ((roundsN spe (saltN salt) (ksE ps key) (ksO ps key) (perm ie (lRaw src), perm ie (rRaw src)) 1).1 : Int) ≤ 18446744073709551615) (B2 : ((roundsN spe (saltN salt) (ksE ps key) (ksO ps key) (perm ie (lRaw src), perm ie (rRaw src)) 1).2 : Int) ≤ 18446744073709551615)
   (hh : A.handled = none) (hdp : A.depth + 6 < recursionLimit) (X : (hd.heap_39 w.params).In g) (T : Top p loose mean mg mb g) (C : CodeHd g 210 206)
   (hg : ∀ b o, g.get? b = some o → s.heap.get? b = some o) (hsz : g.objs.size ≤ s.heap.objs.size)
   (N : ∀ q ∈ ((206, tabObj ps0) :: news : List (Addr × Obj)), s.heap.get? q.1 = some q.2 ∧ g.get? q.1 = none) (hne : ∀ q ∈ news, q.1 ≠ 206)
   (hall : ∀ a o, a ≠ 206 → s.heap.get? a = some o → g.get? a = none → (a, o) ∈ news)
   (hps : ps0 = #[] ∨ ∃ c', ps0 = #[rawInt 97, rawInt 4, .ref c'] ∧ ∃ oc vs t, (c', oc) ∈ news ∧ oc.data = .fields vs ∧ vs[1]? = some (.str desQual t))
   (hret : ∀ (t : Tok) (h' : Heap) (tk' : Nat), (∀ a o, a ≠ 206 → s.heap.get? a = some o → h'.get? a = some o) → TabSt g h' 206 97 4 desQual →
     R (.ok (.ret (.int (desN spe ie cf (ksE ps key) (ksO ps key) src salt 1 : Nat) t))) { s with heap := h', toks := tk', gens := s.gens.push .finished }) :
   codeAny (model PySem.Challenge.rw_aj5033_01.row.prog w) A (.call (.ref 211) ⟨[.int key t1, .int src t2, .int salt t3], []⟩) R s := by
  have hK : ∀ (h' : Heap) (m' : Str → Option Value) (ns : List (Addr × Obj)), Fr g s.heap.objs.size h' m' → News g s.heap.objs.size h' ns → (∀ q ∈ news, q ∈ ns) → ∀ a o, a ≠ 206 → s.heap.get? a = some o → h'.get? a = some o := fun h' m' ns F' N' hs a o ha e => by
    cases q : g.get? a with
    | some o' =>
      have := hg a o' q
      rw [e] at this; cases this
      exact F'.keep a o q
    | none => exact (N' _ (hs _ (hall a o ha e q))).1
  have hltL : ∀ a o, s.heap.get? a = some o → a ≠ s.heap.objs.size := fun a o e => Nat.ne_of_lt (Heap.lt_size e)
  obtain ⟨ah, ad, af, ag, au⟩ := A
  dsimp only at hh hdp
  subst hh
  revert X
  k_fill
  intro X
  have Xs := Frag.In.keeps X hg
  k_dflt cell_enter
  clear Xs
  k_steps
  with_reducible rename Fr _ _ _ _ => F1
  with_reducible rename News _ _ _ _ => N1
  refine nestDef_K rfl rfl rfl (nest_any (qual := desQual) F1 N1 hne T C rfl hps rfl fun f c' oc vs tq ctv doc h2 tk2 F2 N2 hd2 hv2 => ?_)
  clear F1 N1
  k_steps
  with_reducible rename Fr _ _ _ _ => F3
  with_reducible rename News _ _ _ _ => N3
  have hc3 := codeRec_news N3 (.tail _ (.head _)) hd2 hv2
  refine call_genfn F3 N3 T.nolimit (show ad + 1 < recursionLimit by omega) (N3 _ (.head _)).1 hc3 (BindsTo.of_eq rfl) (locs rfl) rfl rfl rfl (by decide) fun L' a h4 tk4 F4 N4 hLL hnL hgL hns hgen haL hk4 hL4 => ?_
  clear F3 N3 hc3
  k_steps
  refine list_gen (b := g) (G := s.gens) (key := key) rfl (show ad + 1 + 3 < recursionLimit by omega) X T hgL hP hrs hns rfl F4.keep hgen haL rfl fun h5 tk5 hks hk5 => ?_
  have F5 : Fr g s.heap.objs.size h5 _ := ⟨F4.ns.at' fun o e => hk5 _ _ hLL e, fun a o e => hk5 _ _ (fun q => by rw [q, Heap.get?_none_of_le hgL] at e; cases e) (F4.keep a o e), F4.above⟩
  have N5 : News g s.heap.objs.size h5 _ := fun q hq => ⟨hk5 _ _ (hnL q hq) (N4 q hq).1, (N4 q hq).2⟩
  have N6 := allNews_ok g s.heap.objs.size h5
  have hN5 : ∀ (h' : Heap) (m' : Str → Option Value), Fr g s.heap.objs.size h' m' → News g s.heap.objs.size h' (allNews g s.heap.objs.size h5) → ∀ a o, a ≠ s.heap.objs.size → h5.get? a = some o → h'.get? a = some o := fun h' m' F' N' => allNews_keep F5 F' N' fun _ x => x
  clear F4 N4
  have N5' := TStop.mk N5
  have F5' := TStop.mk F5
  clear N5
  k_steps
  with_reducible rename Fr _ _ _ _ => F7
  with_reducible rename News _ _ _ _ => N7
  have k7 := hN5 _ _ F7 N7
  refine TStop.mk ?_
  refine tail_walk (w := w) (n := 1) (t0 := t3) (t1 := t2) (tr := _) (S := h4.objs.size) (xs := ksE ps key) (ys := ksO ps key) (src := src) (salt := salt) rfl (show ad + 1 + 1 < recursionLimit by omega) X T hSp hIE hCF hie0 b3 hsl B1 B2 F7 rfl rfl rfl (fun q hq => ?_) rfl ?_ ?_ ?_
  · simp only [List.mem_cons, List.not_mem_nil, or_false] at hq
    rcases hq with rfl | rfl | rfl | rfl | rfl | rfl | rfl | rfl <;> rfl
  · exact Pairs8.keeps (show Pairs8 h5 _ (ksE ps key) (ksO ps key) from hks) F5'.get k7
  · intro h8 tk8 t8 k8
    have N5 := N5'.get
    have k58 : ∀ a o, a ≠ s.heap.objs.size → h5.get? a = some o → h8.get? a = some o := fun a o ha e => k8 a o ha (k7 a o ha e)
    refine hret t8 h8 tk8 (fun a o ha e => k58 a o (hltL a o e) (hK h5 _ _ F5'.get N5 (fun q hq => .tail _ (.tail _ (.tail _ hq))) a o ha e)) ?_
    have e2 := N5 _ (.tail _ (.tail _ (.head _)))
    have e1 := N5 _ (.tail _ (.head _))
    exact ⟨_, k58 _ _ e2.2.1 e2.1, .inr ⟨c', rfl, ⟨c', oc, vs, tq, rfl, k58 _ _ e1.2.1 e1.1, hd2, hv2⟩, e1.2.2⟩⟩
  · passes_own
end Mine

/-! D15 -/
namespace Mine
theorem fresh_D15 : True := by
  w_top off
  exact True.intro
open PySem.Spec PySem.Calls
/-- how the law ends: True, the old heap kept but for the code tables, the generators all done -/
structure LawEnd (tabs : List (Addr × Addr)) (s₁ : Shared) (r : Result) (s' : Shared) : Prop where
  val : r = .ok (.ret (.bool true))
  keep : ∀ b o, (ghostOf s₁.heap tabs).get? b = some o → s'.heap.get? b = some o
  grown : GrownAll tabs s'.heap
  os : s'.os = s₁.os
  gens : AllBare s'.gens
theorem law_post {M : Model} {A : Around} {cd : Code} {s s₁ : Shared} {cw : ClaimW} {cl : Str → Option Addr} {mean : ExcName → Option Value} {args : List WData} {tabs : List (Addr × Addr)} (hT : TabsAt tabs s₁.heap) (hr : ∀ x, cw.raises args x = false) (hp : cw.post args (.bool true) args = true)
    (h : codeAny M A cd (LawEnd tabs s₁) s) : codeAny M A cd (GoodWG cw cl mean args s₁) s :=
  codeAny_mono h fun r s' ⟨hv, hk, hgr, hos, hg⟩ => by
    have keep : ∀ b o, b ∉ tabs.map (·.2) → s₁.heap.get? b = some o → s'.heap.get? b = some o := fun b o hb e => hk b o (ghost_ne e hb)
    have grown : ∀ b o, b ∈ tabs.map (·.2) → s₁.heap.get? b = some o → isCodeTable s₁.heap b ∧ o = tabObj #[] ∧ ∃ ps, s'.heap.get? b = some (tabObj ps) := fun b o hb e => by
      obtain ⟨q, hq, rfl⟩ := List.mem_map.mp hb
      have e2 := (hT q hq).2
      rw [e] at e2
      exact ⟨((hT q hq).1.tab (hT q hq).2).isCodeTable, Option.some.inj e2, hgr.get q hq⟩
    refine ⟨.inl ⟨_, .bool true, [], hv, hr, .bool _, hp, fun _ => ⟨List.nodup_nil, fun _ ha => nomatch ha⟩⟩, ⟨fun b o e => ?_, fun b o e => ?_⟩, hos, hg⟩
    · by_cases hb : b ∈ tabs.map (·.2)
      · obtain ⟨ht, rfl, ps, hP⟩ := grown b o hb e
        exact .inr (.inl ⟨ht, rfl, #[], ps, rfl, by rw [Array.empty_append]; exact hP⟩)
      · exact .inl (keep b o hb e)
    · by_cases hb : b ∈ tabs.map (·.2)
      · obtain ⟨_, _, ps, hP⟩ := grown b o hb e
        exact ⟨_, hP⟩
      · exact ⟨o, keep b o hb e⟩
end Mine

/-! D16 -/
namespace Mine
local macro_rules | `(tactic| walk_at "idle D16 0") => `(tactic| fail "idle")
theorem fresh_D16 : True := by
  w_top off
  exact True.intro
open PySem.Spec PySem.Calls
def shN (k : Nat) : Nat :=
  0 ||| (k >>> 1 &&& 127) <<< 0 ||| (k >>> 1 >>> 8 &&& 127) <<< 7 ||| (k >>> 1 >>> 8 >>> 8 &&& 127) <<< 14 ||| (k >>> 1 >>> 8 >>> 8 >>> 8 &&& 127) <<< 21
    ||| (k >>> 1 >>> 8 >>> 8 >>> 8 >>> 8 &&& 127) <<< 28 ||| (k >>> 1 >>> 8 >>> 8 >>> 8 >>> 8 >>> 8 &&& 127) <<< 35 ||| (k >>> 1 >>> 8 >>> 8 >>> 8 >>> 8 >>> 8 >>> 8 &&& 127) <<< 42
    ||| (k >>> 1 >>> 8 >>> 8 >>> 8 >>> 8 >>> 8 >>> 8 >>> 8 &&& 127) <<< 49
theorem small_andE {a : Int} {n : Nat} (h : NatE a) (hn : n < 18446744073709551616) : (Builtin.bitAnd a (OfNat.ofNat n : Int)).natAbs < 2 ^ 64 := by
  obtain ⟨m, rfl⟩ := h
  exact small_and m n hn
theorem shl_lt (k a b : Nat) (h : a < 128) : a <<< b < 2 ^ (b + 7) := by
  rw [Nat.shiftLeft_eq, Nat.pow_add, Nat.mul_comm]
  exact Nat.mul_lt_mul_of_pos_left (by omega) (Nat.two_pow_pos b)
theorem and127 (x : Nat) : x &&& 127 < 128 := Nat.lt_succ_of_le Nat.and_le_right
theorem shN_lt (k : Nat) : shN k < 72057594037927936 := by
  have h : ∀ x b : Nat, b ≤ 49 → (x &&& 127) <<< b < 2 ^ 56 := fun x b hb => Nat.lt_of_lt_of_le (shl_lt 0 _ _ (and127 x)) (Nat.pow_le_pow_right (by decide) (by omega))
  have o : ∀ x y : Nat, x < 2 ^ 56 → y < 2 ^ 56 → x ||| y < 2 ^ 56 := fun x y => Nat.or_lt_two_pow
  unfold shN
  exact o _ _ (o _ _ (o _ _ (o _ _ (o _ _ (o _ _ (o _ _ (o _ _ (by decide) (h _ _ (by decide))) (h _ _ (by decide))) (h _ _ (by decide))) (h _ _ (by decide))) (h _ _ (by decide))) (h _ _ (by decide))) (h _ _ (by decide))) (h _ _ (by decide))
theorem and_not {c : Int} {n : Nat} (e : c = (n : Int)) (h : n < 18446744073709551616) : Builtin.bitAnd c (Builtin.bitNot 18446744073709551615) = 0 := by
  subst e
  unfold Builtin.bitAnd
  rw [decide_eq_true (Int.natCast_nonneg n), decide_eq_false (by unfold Builtin.bitNot; omega)]
  show (n : Int) - (((n : Int).toNat &&& (Builtin.bitNot (Builtin.bitNot 18446744073709551615)).toNat : Nat) : Int) = 0
  rw [not_not, Int.toNat_natCast]
  have : n &&& (18446744073709551615 : Int).toNat = n := by
    show n &&& (2 ^ 64 - 1) = n
    rw [Nat.and_two_pow_sub_one_eq_mod]
    exact Nat.mod_eq_of_lt h
  rw [this]
  omega

local macro_rules | `(tactic| cell_enter) => `(tactic| (refine' enterG (news := []) (fun _ _ e => e) (Nat.le_refl _) (fun _ hq => nomatch hq) ?k3 ?k4 ?k6 ?k7 ?k8 ?k9 ?kB ?_ ?c2 ?c3 ?c4 ?c5; (case k3 => assumption); (case k4 => exact Top.nolimit (by assumption)); (case k6 => k_is); (case k7 => k_is); (case k8 => (dsimp only; omega)); (case k9 => first | exact BindsTo.of_eq rfl | exact binds_K (by with_reducible assumption) rfl (by k_is) rfl rfl rfl); (case c5 => decide); (case kB => exact locs rfl); (case c2 => exact rfl); (case c3 => exact rfl); (case c4 => exact rfl); k_whole; intro h' F' N'; (try dsimp only); (try k_fold)))
local macro_rules | `(tactic| walk_at "binaryOp RShift int int") => `(tactic| (k_here; (with_reducible refine rshift_int ?kb1 ?_); (case kb1 => decide)))
local macro_rules | `(tactic| walk_at "binaryOp LShift int int") => `(tactic| (k_here; (with_reducible refine lshift_int_small ?kb1 ?kb2 ?kb3 ?_); (case kb1 => decide); (case kb2 => decide); (case kb3 => (exact small_andE (by (repeat' (first | with_reducible refine or_e ?_ ?_ | with_reducible refine and_e ?_ ?_ | with_reducible refine shr_e ?_ | with_reducible refine shl_e ?_ | with_reducible exact lit_e _ | with_reducible exact var_e _))) (by decide)))))

theorem shrink_gro (w : World) (key : Nat) (tc : Tok) (b1 : (key : Int) ≤ 18446744073709551615) : Gro w 2 195 [.int key tc] (fun t => .int (shN key : Nat) t) := by
  dsimp only [Gro]
  k_fill
  intro p loose mean mg mb A s R hh hdp X T hret
  have hret' : ∀ (c : Int), c = ((shN key : Nat) : Int) → ∀ (t : Tok) (h' : Heap) (tk' : Nat), (∀ b o, s.heap.get? b = some o → h'.get? b = some o) → R (.ok (.ret (.int c t))) { s with heap := h', toks := tk' } := by
    rintro c rfl
    exact hret
  clear hret
  obtain ⟨ah, ad, af, ag, au⟩ := A
  dsimp only at hh hdp
  subst hh
  k_dflt cell_enter
  k_steps
  · exfalso
    rename Builtin.bitAnd _ (Builtin.bitNot 18446744073709551615) ≠ 0 => hne
    refine hne (and_not (n := shN key) ?_ (by have := shN_lt key; omega))
    unfold shN
    (repeat' (first | with_reducible refine or_c ?_ ?_ | with_reducible refine and_c ?_ ?_ | with_reducible refine xor_c ?_ ?_ | with_reducible refine shr_c ?_ ?_ | with_reducible refine shl_c ?_ ?_ | with_reducible exact lit_c _ | exact rfl))
  · refine hret' _ ?_ _ _ _ (by exact Fr.keep (by assumption))
    unfold shN
    (repeat' (first | with_reducible refine or_c ?_ ?_ | with_reducible refine and_c ?_ ?_ | with_reducible refine xor_c ?_ ?_ | with_reducible refine shr_c ?_ ?_ | with_reducible refine shl_c ?_ ?_ | with_reducible exact lit_c _ | exact rfl))
end Mine

/-! D17 -/
namespace Mine
theorem fresh_D17 : True := by
  w_top off
  exact True.intro
open PySem.Spec PySem.Calls PySem.Builtin.Struct PySem.Builtin
/-- the octets of a number, the highest first -/
def beL : Nat → Nat → List Int
  | 0, _ => []
  | k + 1, n => beL k (n / 256) ++ [((n % 256 : Nat) : Int)]
def rawQ (n : Int) : List Int := [7, 6, 5, 4, 3, 2, 1, 0].map fun k => (((((n % 2 ^ (8 * 8)).toNat / 256 ^ k % 256).toUInt8).toNat : Nat) : Int)

def fmtQ : Format := { bigEndian := true, native := false, codes := [⟨'Q', 1, 0, 8⟩], size := 8, items := 1 }
def packOneQ (n : Int) : Sem (Array UInt8) := do
  let lo : Int := 0
  let hi : Int := 18446744073709551615
  if n < lo || n > hi then rule "struct.pack.out-of-range"; structError s!"'{'Q'}' format requires {lo} <= number <= {hi}"
  return intBytes true 8 n
theorem packOneQ_ok (n : Int) (h0 : 0 ≤ n) (h1 : n ≤ 18446744073709551615) : packOneQ n = pure (intBytes true 8 n) := by
  unfold packOneQ
  rw [if_neg (by simp; omega)]
theorem fmt_eq (t : Tok) : moduleFormat (.str (Str.ofString ">Q") t) = pure fmtQ := by kernel_rfl
def packEachQ (n : Int) (u : Tok) (init : Array UInt8) (put : Array UInt8 → Nat → Array UInt8 → Sem (Array UInt8)) : Sem (Array UInt8) := do
  let mut state := init
  let mut rest := [Value.int n u]
  for c in [(⟨'Q', 1, 0, 8⟩ : Struct.Code)] do
    for k in [0 : c.count] do
      let x :: more := rest | unsupported s!"internal:x"
      rest := more
      state ← put state (c.offset + k * c.size) (← packOneQ n)
  return state
theorem packEach_eq (n : Int) (u : Tok) (init : Array UInt8) (put : Array UInt8 → Nat → Array UInt8 → Sem (Array UInt8)) :
   packEach "_struct.pack" fmtQ [.int n u] init put = packEachQ n u init put := by kernel_rfl
theorem packEachQ_ok (n : Int) (h0 : 0 ≤ n) (h1 : n ≤ 18446744073709551615) (u : Tok) (init : Array UInt8) (f : Array UInt8 → Nat → Array UInt8 → Array UInt8) :
   packEachQ n u init (fun a k b => pure (f a k b)) = pure (f init 0 (intBytes true 8 n)) := by
  unfold packEachQ
  rw [packOneQ_ok n h0 h1]
  kernel_rfl

theorem pack_walk {M : Model} {A : Around} {E : Value → Shared → Prop} {s : Shared} {Q : Fin → Shared → Prop} (n : Int) (h0 : 0 ≤ n) (h1 : n ≤ 18446744073709551615) (t u : Tok)
    (h : ∀ b, KBw.bInts b = rawQ n → Q (.done (.ret (.bytes b s.toks))) { s with toks := s.toks + 1 }) :
    wpAny M A (Builtin.«_struct.pack» ⟨[.str (Str.ofString ">Q") t, .int n u], []⟩) Q E s := by
  unfold Builtin.«_struct.pack»
  refine wpAny_bind (wpAny_of_eq (a := ()) (by kernel_rfl) ?_)
  show wpAny _ _ (moduleFormat (.str (Str.ofString ">Q") t) >>= fun f => Struct.packed "_struct.pack" "pack" f [.int n u]) _ _ _
  refine wpAny_bind (wpAny_of_eq (fmt_eq t) ?_)
  unfold Struct.packed
  rw [packEach_eq, packEachQ_ok n h0 h1]
  refine KFB.if_not rfl ?_
  refine KFB.if_not rfl ?_
  refine wpAny_bind (wpAny_pure ?_)
  have hb : ∀ b, KBw.bInts b = rawQ n → b.size ≤ sizeLine := fun b e => by
    have e1 := KBw.ints_length b
    rw [e] at e1
    have e2 : (rawQ n).length = 8 := rfl
    rw [sizeLine_eq]
    omega
  refine wpAny_bind ((fun b (e : KBw.bInts b = rawQ n) => wpAny_mkBytes (b := b) (wpAny_pure (h _ e)) (hb b e)) _ ?_)
  kernel_rfl

section
variable {prog : Program} {w : World} {A : Around} {E : Value → Shared → Prop} {s : Shared}
theorem call_pack {Q : Value → Shared → Prop} {n : Int} {t u : Tok} (h0 : 0 ≤ n) (h1 : n ≤ 18446744073709551615) (h : ∀ b, KBw.bInts b = rawQ n → Q (.bytes b s.toks) { s with toks := s.toks + 1 }) :
    wpAny (model prog w) A (call (.builtin "_struct.pack") [.str (Str.ofString ">Q") t, .int n u]) Q E s := by
  refine wpAny_call (codeAny_call_builtin_at (Code.quiet_builtin _ (by decide +kernel)) (entryFor_of_tree (b := Builtin.«_struct.pack») (by kernel_rfl)) ?_)
  refine wpAny_of_eq (a := ()) (by kernel_rfl) ?_
  exact pack_walk n h0 h1 t u fun b e => h b e

theorem unpacked_eq (b : Array UInt8) : unpacked "_struct.unpack" fmtQ b 0 = (mkInt ((natOf true (b.extract 0 8) : Nat) : Int) >>= fun v => newTuple [v]) := by kernel_rfl
theorem bytesLike_eq (b : Array UInt8) (t : Tok) : Bytes.bytesLike "_struct.unpack" (.bytes b t) = pure b := by kernel_rfl
theorem natOf_eq (b : Array UInt8) (hb : b.size = 8) : ((natOf true (b.extract 0 8) : Nat) : Int) = KFB.value (KBw.bInts b) := by
  have e : b.extract 0 8 = b := by rw [← hb]; exact Array.extract_size
  rw [e]
  have e2 : natOf true b = b.toList.foldl (fun (a : Nat) (c : UInt8) => a * 256 + c.toNat) 0 := by
    show Array.foldr _ _ b.reverse = _
    rw [← Array.foldr_toList, Array.toList_reverse, List.foldr_reverse]
  rw [e2]
  exact KFB.fold_cast b.toList 0
theorem call_unpack {Q : Value → Shared → Prop} {b : Array UInt8} {t u : Tok} (hb : b.size = 8)
    (h : Q (.ref s.heap.objs.size) { s with toks := s.toks + 1, heap := s.heap.push { cls := .type "tuple", data := .seq #[.int (KFB.value (KBw.bInts b)) s.toks] } }) :
    wpAny (model prog w) A (call (.builtin "_struct.unpack") [.str (Str.ofString ">Q") t, .bytes b u]) Q E s := by
  refine wpAny_call (codeAny_call_builtin_at (Code.quiet_builtin _ (by decide +kernel)) (entryFor_of_tree (b := Builtin.«_struct.unpack») (by kernel_rfl)) ?_)
  refine wpAny_of_eq (a := ()) (by kernel_rfl) ?_
  unfold Builtin.«_struct.unpack»
  refine wpAny_bind (wpAny_of_eq (a := ()) (by kernel_rfl) ?_)
  refine wpAny_bind (wpAny_of_eq (a := ()) (by kernel_rfl) ?_)
  show wpAny _ _ (moduleFormat (.str (Str.ofString ">Q") t) >>= fun f => unpackExact "_struct.unpack" (pure f) (.bytes b u)) _ _ _
  refine wpAny_bind (wpAny_of_eq (fmt_eq t) ?_)
  unfold unpackExact
  refine wpAny_bind (wpAny_of_eq (bytesLike_eq b u) ?_)
  refine wpAny_bind (wpAny_pure ?_)
  refine KFB.if_not (by rw [hb]; rfl) ?_
  rw [unpacked_eq]
  refine wpAny_bind (wpAny_bind (wpAny_mkInt (wpAny_newTuple (wpAny_pure ?_) (by rw [sizeLine_eq]; exact Nat.le_of_ble_eq_true rfl))))
  rw [natOf_eq b hb]
  exact h
end
end Mine

/-! D18 -/
namespace Mine
local macro_rules | `(tactic| walk_at "idle D18 0") => `(tactic| fail "idle")
theorem fresh_D18 : True := by
  w_top off
  exact True.intro
open PySem.Spec PySem.Calls
def oct7 (x : Int) : List Int := [x / 256 / 256 / 256 / 256 / 256 / 256 % 256, x / 256 / 256 / 256 / 256 / 256 % 256, x / 256 / 256 / 256 / 256 % 256, x / 256 / 256 / 256 % 256, x / 256 / 256 % 256, x / 256 % 256, x % 256]
def oct8 (x : Int) : List Int := [x / 256 / 256 / 256 / 256 / 256 / 256 / 256 % 256, x / 256 / 256 / 256 / 256 / 256 / 256 % 256, x / 256 / 256 / 256 / 256 / 256 % 256, x / 256 / 256 / 256 / 256 % 256, x / 256 / 256 / 256 % 256, x / 256 / 256 % 256, x / 256 % 256, x % 256]
theorem rawQ_oct (n : Nat) (h : (n : Int) ≤ 18446744073709551615) : rawQ (n : Int) = oct8 (n : Int) := by
  have e1 : ((n : Int) % 2 ^ (8 * 8)).toNat = n := by
    have : (2 : Int) ^ (8 * 8) = 18446744073709551616 := by decide
    rw [this]; omega
  have e2 : ∀ x : Nat, ((x % 256).toUInt8).toNat = x % 256 := fun x => by
    show (UInt8.ofNat (x % 256)).toNat = _
    rw [UInt8.toNat_ofNat']
    omega
  unfold rawQ oct8
  simp only [List.map_cons, List.map_nil, e1, e2, Nat.reducePow, Nat.pow_zero, Nat.div_one]
  simp only [List.cons.injEq]
  refine ⟨?_, ?_, ?_, ?_, ?_, ?_, ?_, ?_, trivial⟩ <;> omega
theorem value_oct8 (n : Nat) (h : (n : Int) ≤ 18446744073709551615) : KFB.value (oct8 (n : Int)) = n := by
  unfold KFB.value oct8
  simp only [List.foldl_cons, List.foldl_nil]
  omega
theorem value_oct7 (n : Nat) (h : (n : Int) ≤ 72057594037927935) : KFB.value (0 :: oct7 (n : Int)) = n := by
  unfold KFB.value oct7
  simp only [List.foldl_cons, List.foldl_nil]
  omega
theorem size_of_ints {b : Array UInt8} {l : List Int} {k : Nat} (h : KBw.bInts b = l) (hl : l.length = k) : b.size = k := by rw [← KBw.ints_length, h, hl]

abbrev GroP (w : World) (d : Nat) (f : Addr) (vs : List Value) (P : Value → Prop) : Prop :=
  ∀ (p : Program) (loose : List Str) (mean : ExcName → Option Value) (mg mb : Str → Option Value) (A : Around) (s : Shared) (R : Result → Shared → Prop),
    A.handled = none → A.depth + d < recursionLimit → (hd.heap_39 w.params).In s.heap → Top p loose mean mg mb s.heap →
    (∀ (v : Value) (h' : Heap) (tk' : Nat), P v → (∀ b o, s.heap.get? b = some o → h'.get? b = some o) → R (.ok (.ret v)) { s with heap := h', toks := tk' }) →
    codeAny (model PySem.Challenge.rw_aj5033_01.row.prog w) A (.call (.ref f) ⟨vs, []⟩) R s
theorem groP_use {w : World} {d : Nat} {f : Addr} {vs : List Value} {P : Value → Prop} (C : GroP w d f vs P) {p : Program} {loose : List Str} {mean : ExcName → Option Value} {mg mb : Str → Option Value}
    {A : Around} {s : Shared} {h₀ : Heap} {L : Addr} {m : Str → Option Value} {news : List (Addr × Obj)} {Q E : Value → Shared → Prop}
    (hh : A.handled = none) (hdp : A.depth + d < recursionLimit) (F : Fr h₀ L s.heap m) (N : News h₀ L s.heap news) (X : (hd.heap_39 w.params).In h₀) (T : Top p loose mean mg mb h₀)
    (h : ∀ (v : Value) (h' : Heap) (tk' : Nat), P v → Fr h₀ L h' m → News h₀ L h' news → Q v { s with heap := h', toks := tk' }) :
    wpAny (model PySem.Challenge.rw_aj5033_01.row.prog w) A (call (.ref f) vs) Q E s :=
  wpAny_call (C p loose mean mg mb A s _ hh hdp (X.keeps F.keep) (T.keeps F.keep) fun v h' tk' hP k => h v h' tk' hP (Fr.grow F k) (News.grow N k))
def IsOct (l : List Int) (v : Value) : Prop := ∃ b t, v = .bytes b t ∧ KBw.bInts b = l

local macro_rules | `(tactic| cell_enter) => `(tactic| (refine' enterG (news := []) (fun _ _ e => e) (Nat.le_refl _) (fun _ hq => nomatch hq) ?k3 ?k4 ?k6 ?k7 ?k8 ?k9 ?kB ?_ ?c2 ?c3 ?c4 ?c5; (case k3 => assumption); (case k4 => exact Top.nolimit (by assumption)); (case k6 => k_is); (case k7 => k_is); (case k8 => (dsimp only; omega)); (case k9 => first | exact BindsTo.of_eq rfl | exact binds_K (by with_reducible assumption) rfl (by k_is) rfl rfl rfl); (case c5 => decide); (case kB => exact locs rfl); (case c2 => exact rfl); (case c3 => exact rfl); (case c4 => exact rfl); k_whole; intro h' F' N'; (try dsimp only); (try k_fold)))
local macro_rules | `(tactic| walk_at "call builtin:_struct.pack") => `(tactic| (k_here; refine' call_pack ?h0 ?h1 ?_; (case h0 => omega); (case h1 => omega); k_whole; intro b hb; rw [rawQ_oct _ (by omega)] at hb; dsimp only [oct8] at hb))
theorem pack64_gro (w : World) (n : Nat) (tc : Tok) (b1 : (n : Int) ≤ 18446744073709551615) : GroP w 1 159 [.int n tc] (IsOct (oct8 n)) := by
  dsimp only [GroP]
  k_fill
  intro p loose mean mg mb A s R hh hdp X T hret
  obtain ⟨ah, ad, af, ag, au⟩ := A
  dsimp only at hh hdp
  subst hh
  k_dflt cell_enter
  k_steps
  exact hret _ _ _ ⟨_, _, rfl, by assumption⟩ (by exact Fr.keep (by assumption))
theorem pack56_gro (w : World) (n : Nat) (tc : Tok) (b1 : (n : Int) ≤ 72057594037927935) : GroP w 1 173 [.int n tc] (IsOct (oct7 n)) := by
  dsimp only [GroP]
  k_fill
  intro p loose mean mg mb A s R hh hdp X T hret
  obtain ⟨ah, ad, af, ag, au⟩ := A
  dsimp only at hh hdp
  subst hh
  k_dflt cell_enter
  k_steps
  rename KBw.bInts (KBy.picked _ _ _) = _ => kb
  exact hret _ _ _ ⟨_, _, rfl, kb.trans rfl⟩ (by exact Fr.keep (by assumption))

section
variable {prog : Program} {w : World} {A : Around} {E : Value → Shared → Prop} {s : Shared} {h₀ : Heap} {L : Addr} {m : Str → Option Value} {news : List (Addr × Obj)}
theorem call_unpackN {Q : Value → Shared → Prop} {b : Array UInt8} {t u : Tok} {ks : List Int} (F : Fr h₀ L s.heap m) (N : News h₀ L s.heap news) (hb : KBw.bInts b = ks) (hl : ks.length = 8)
    (h : ∀ (a : Addr) (h' : Heap) (tk : Nat) (t' : Tok), Fr h₀ L h' m → News h₀ L h' ((a, { cls := .type "tuple", data := .seq #[.int (KFB.value ks) t'] }) :: news) → (∀ p ∈ news, p.1 < a) → Q (.ref a) { s with heap := h', toks := tk }) :
    wpAny (model prog w) A (call (.builtin "_struct.unpack") [.str (Str.ofString ">Q") t, .bytes b u]) Q E s := by
  subst hb
  refine call_unpack (by rw [← KBw.ints_length, hl]) ?_
  have k : ∀ a o, s.heap.get? a = some o → (s.heap.push { cls := .type "tuple", data := .seq #[.int (KFB.value (KBw.bInts b)) s.toks] }).get? a = some o := fun a o e => Heap.get?_push_of_some _ e
  refine h _ _ _ s.toks (Fr.grow F k) (fun q hq => ?_) (fun p hp => Heap.lt_size (N p hp).1)
  rcases List.mem_cons.mp hq with rfl | hq
  · exact ⟨Heap.get?_push_size _ rfl, Nat.ne_of_gt F.ns.lt, Heap.get?_none_of_le (Nat.le_trans F.above (Nat.le_of_lt F.ns.lt))⟩
  · exact News.grow N k q hq
end
local macro_rules | `(tactic| walk_at "call builtin:_struct.unpack") => `(tactic| (k_here; refine' call_unpackN ?F ?N ?hb ?hl ?_; (case F => k_asm); (case N => k_asm); (case hb => kba_ints); (case hl => rfl); k_whole; intro a h' tk t' F' N' l'; (try dsimp only at N'); (try k_lt l')))
theorem unpack64_gro (w : World) (n : Nat) (b : Array UInt8) (tc : Tok) (hb : KBw.bInts b = oct8 n) (b1 : (n : Int) ≤ 18446744073709551615) : Gro w 1 166 [.bytes b tc] (fun t => .int (n : Nat) t) := by
  dsimp only [Gro]
  k_fill
  intro p loose mean mg mb A s R hh hdp X T hret
  have hret' : ∀ (c : Int), c = (n : Int) → ∀ (t : Tok) (h' : Heap) (tk' : Nat), (∀ b o, s.heap.get? b = some o → h'.get? b = some o) → R (.ok (.ret (.int c t))) { s with heap := h', toks := tk' } := by
    rintro c rfl
    exact hret
  clear hret
  have hv := value_oct8 n b1
  dsimp only [oct8] at hb hv
  obtain ⟨ah, ad, af, ag, au⟩ := A
  dsimp only at hh hdp
  subst hh
  k_dflt cell_enter
  k_steps
  exact hret' _ (by exact hv) _ _ _ (by exact Fr.keep (by assumption))
theorem unpack56_gro (w : World) (n : Nat) (b : Array UInt8) (tc : Tok) (hb : KBw.bInts b = oct7 n) (b1 : (n : Int) ≤ 72057594037927935) : Gro w 1 180 [.bytes b tc] (fun t => .int (n : Nat) t) := by
  dsimp only [Gro]
  k_fill
  intro p loose mean mg mb A s R hh hdp X T hret
  have hret' : ∀ (c : Int), c = (n : Int) → ∀ (t : Tok) (h' : Heap) (tk' : Nat), (∀ b o, s.heap.get? b = some o → h'.get? b = some o) → R (.ok (.ret (.int c t))) { s with heap := h', toks := tk' } := by
    rintro c rfl
    exact hret
  clear hret
  have hv := value_oct7 n b1
  dsimp only [oct7] at hb hv
  obtain ⟨ah, ad, af, ag, au⟩ := A
  dsimp only at hh hdp
  subst hh
  k_dflt cell_enter
  k_steps
  exact hret' _ (by exact hv) _ _ _ (by exact Fr.keep (by assumption))
end Mine

/-! D19 -/
namespace Mine
theorem fresh_D19 : True := by
  w_top off
  exact True.intro
open PySem.Spec PySem.Calls
theorem enterGc {prog : Program} {w : World} {A : Around} {s : Shared} {K : Frag} {R : Result → Shared → Prop} {g : Heap} {news : List (Addr × Obj)}
    {name qual : Str} {params : Arguments} {body : List Stmt} {scope : Scope} {dV kV doc pm cdv ct oc : Value} {an od : Option Addr} {osl : Array (Option Value)} {f : Addr} {args : Args} {binds : List (Str × Value)}
    (hg : ∀ b o, g.get? b = some o → s.heap.get? b = some o) (hsz : g.objs.size ≤ s.heap.objs.size) (N : ∀ q ∈ news, s.heap.get? q.1 = some q.2 ∧ g.get? q.1 = none)
    (X : K.In g) (hlim : g.NoLimit)
    (ho : K.lookup f = some ⟨oc, od, .func (fnOf name qual params body scope dV kV doc pm an cdv ct), osl⟩) (hcd : codeIn K cdv qual = true) (hroom : A.depth < recursionLimit)
    (hbind : BindsTo s (fnOf name qual params body scope dV kV doc pm an cdv ct) args binds) (hkind : (binds.all fun y => scope.names.lookup y.1 == some .local || scope.names.lookup y.1 == some .cell) = true)
    (hnd : ((cellsFrom 0 scope.names []).map (·.1)).Nodup)
    (h : ∀ h₁ tk cells, Fr g s.heap.objs.size h₁ (bindL (envOfC qual scope s.heap.objs.size f cdv).kindOf binds fun _ => none) → News g s.heap.objs.size h₁ (cells ++ news) →
      CellsAre (bindC (envOfC qual scope s.heap.objs.size f cdv).kindOf binds fun _ => none) (cellsFrom (s.heap.objs.size + 1) scope.names []) cells →
      wpAny (model prog w) (A.deeper (envOfC qual scope s.heap.objs.size f cdv)) (execs body (envOfC qual scope s.heap.objs.size f cdv))
        (fun fl s' => R (.ok (.ret (match fl with | .ret v => v | _ => .none))) s')
        (fun e s' => wpAny (model prog w) (A.deeper (envOfC qual scope s.heap.objs.size f cdv)) (leaving (envOfC qual scope s.heap.objs.size f cdv) e) (fun _ s'' => R (.error e) s'') (fun e' s'' => R (.error e') s'') s')
        { s with heap := h₁, toks := tk })
    (hco : scope.isCoroutine = false) (hgen : scope.isGenerator = false) (hk : scope.kind = .function) :
    codeAny (model prog w) A (.call (.ref f) args) R s := by
  have Xs : K.In s.heap := fun a o e => hg _ _ (X a o e)
  refine codeAny_call_function hroom (Xs _ _ ho) rfl hco hgen rfl (codeRec_of Xs hcd) (hbind _ _ _ _ ?_)
  refine wpAny_newFunctionEnv_cells hk (kindsX hkind _) fun env' he s' x => ?_
  subst he
  refine ⟨(hlim.keeps hg).keeps x.toInCall.keep, codeAny_func ?_⟩
  obtain ⟨h₁, tk, rfl, _⟩ := x.done
  have hk₁ := x.toInCall.keep
  obtain ⟨cells, NC, Y⟩ := Cl.news (h₀ := s.heap) (Nat.le_refl _) fun n c hm => ⟨x.cell n c (lookup_of_mem_nodup (cellsFrom_names scope.names 0 (s.heap.objs.size + 1) [] [] rfl ▸ hnd) hm), x.above n c hm⟩
  refine h h₁ tk cells ⟨x.toInCall.ns, fun b o e => hk₁ b o (hg b o e), hsz⟩ (fun p hp => ?_) Y
  rcases List.mem_append.mp hp with hp | hp
  · refine ⟨(NC p hp).1, (NC p hp).2.1, ?_⟩
    cases q : g.get? p.1 with
    | none => rfl
    | some o => have := hg _ _ q; rw [(NC p hp).2.2] at this; cases this
  · exact ⟨hk₁ _ _ (N p hp).1, Nat.ne_of_lt (Heap.lt_size (N p hp).1), (N p hp).2⟩

local macro_rules | `(tactic| cell_enter) => `(tactic| (refine' enterG (news := []) (fun _ _ e => e) (Nat.le_refl _) (fun _ hq => nomatch hq) ?k3 ?k4 ?k6 ?k7 ?k8 ?k9 ?kB ?_ ?c2 ?c3 ?c4 ?c5; (case k3 => assumption); (case k4 => exact Top.nolimit (by assumption)); (case k6 => k_is); (case k7 => k_is); (case k8 => (dsimp only; omega)); (case k9 => first | exact BindsTo.of_eq rfl | exact binds_K (by with_reducible assumption) rfl (by k_is) rfl rfl rfl); (case c5 => decide); (case kB => exact locs rfl); (case c2 => exact rfl); (case c3 => exact rfl); (case c4 => exact rfl); k_whole; intro h' F' N'; (try dsimp only); (try k_fold)))

local macro_rules | `(tactic| walk_at "call ref") => `(tactic| (k_here; refine' groP_use (pack56_gro _ _ _ ?b1) ?hh ?hd ?F ?N ?X ?T ?_; (case b1 => assumption); (case hh => exact rfl); (case hd => (first | assumption | omega)); (case F => k_asm); (case N => k_asm); (case X => k_asm); (case T => k_asm); intro v h' tk hP F' N'; obtain ⟨b, t, hv, hb⟩ := hP; subst hv))
local macro_rules | `(tactic| walk_at "call ref") => `(tactic| (k_here; refine' gro_use (shrink_gro _ _ _ ?b1) ?hh ?hd ?F ?N ?X ?T ?_; (case b1 => assumption); (case hh => exact rfl); (case hd => (first | assumption | omega)); (case F => k_asm); (case N => k_asm); (case X => k_asm); (case T => k_asm); intro t h' tk F' N'))
local macro_rules | `(tactic| walk_at "call ref") => `(tactic| (k_here; refine' gro_use (unpack64_gro _ _ _ _ ?hb ?b1) ?hh ?hd ?F ?N ?X ?T ?_; (case hb => assumption); (case b1 => assumption); (case hh => exact rfl); (case hd => (first | assumption | omega)); (case F => k_asm); (case N => k_asm); (case X => k_asm); (case T => k_asm); intro t h' tk F' N'))

theorem shrinkB_gro (w : World) (n : Nat) (b : Array UInt8) (tc : Tok) (hb : KBw.bInts b = oct8 n) (b1 : (n : Int) ≤ 18446744073709551615) : GroP w 4 195 [.bytes b tc] (IsOct (oct7 (shN n : Nat))) := by
  dsimp only [GroP]
  k_fill
  intro p loose mean mg mb A s R hh hdp X T hret
  have hsn : ((shN n : Nat) : Int) ≤ 72057594037927935 := by have := shN_lt n; omega
  have hsz : b.size = 8 := size_of_ints hb rfl
  obtain ⟨ah, ad, af, ag, au⟩ := A
  dsimp only at hh hdp
  subst hh
  have hd1 : ad + 1 + 1 < recursionLimit := by omega
  have hd2 : ad + 1 + 2 < recursionLimit := by omega
  k_dflt cell_enter
  k_steps
  · exfalso
    omega
  · exact hret _ _ _ ⟨_, _, rfl, by assumption⟩ (by exact Fr.keep (by assumption))
end Mine

/-! D20 -/
namespace Mine
theorem fresh_D20 : True := by
  w_top off
  exact True.intro
open PySem.Spec PySem.Calls
theorem gen_no_bytes : typeLookup (.type "generator") "__bytes__" = pure none := by rw [typeLookup_type, builtinLookup_eq_fast]; kernel_rfl
theorem gen_no_index : typeLookup (.type "generator") "__index__" = pure none := by rw [typeLookup_type, builtinLookup_eq_fast]; kernel_rfl
theorem gen_no_buffer : typeLookup (.type "generator") "__buffer__" = pure none := by rw [typeLookup_type, builtinLookup_eq_fast]; kernel_rfl
section
variable {prog : Program} {w : World} {A : Around} {E : Value → Shared → Prop} {s : Shared}
variable {I : Addr} {fp wr : List Addr} {G : Array GenState → Array GenState → Prop} {P : Nat → Value → Prop} {St : Nat → Shared → Prop} {ns : List Int}
theorem bg_loop {R : Result → Shared → Prop} {S : Addr} (W : WalksS prog w A.in1 I fp wr G ns.length P St) (hP : ∀ i v, P i v → ∃ k t, ns[i]? = some k ∧ v = .int k t) (hr : ∀ n ∈ ns, 0 ≤ n ∧ n < 256) (hz : ns.length ≤ sizeLine) (hSf : S ∉ fp) :
    ∀ (k i : Nat) (s : Shared), ns.length - i = k → i ≤ ns.length → St i s → s.heap.get? S = some { cls := .type "bytearray", data := .bytearray (byteArr (ns.take i)) } →
      (∀ s' t, Moved (S :: wr) G s s' → R (.ok (.ret (.bytes (byteArr ns) t))) s') →
      codeAny (model prog w) A (.builtin "bytes.__new__.loop" ⟨[.type "bytes", .ref I, .ref S], []⟩) R s := by
  have hSw : S ∉ wr := fun h => hSf (W.sub _ h)
  have hsub : ∀ b ∈ wr, b ∈ S :: wr := fun b hb => List.mem_cons_of_mem _ hb
  intro k
  induction k with
  | zero =>
    intro i s hk hle hst hS hR
    have hin : i = ns.length := by omega
    subst hin
    refine codeAny_builtin F.bm_entry_loop ?_
    rw [Around.under_plainId F.bm_plain_loop _]
    show wpAny _ A.in1 (pyNext (.ref I) >>= _) _ _ s
    refine wpAny_bind (W.done s _ _ hst fun s' hm => ?_)
    have hS' : s'.heap.get? S = some { cls := .type "bytearray", data := .bytearray (byteArr (ns.take ns.length)) } := hm.heap S _ hSw hS
    refine wpAny_bind ?_
    unfold Builtin.Bytes.payload Builtin.Bytes.payload?
    refine wpAny_bind (wpAny_bind (wpAny_load hS' ?_))
    refine wpAny_pure (wpAny_pure ?_)
    rw [List.take_length]
    refine wpAny_bind (wpAny_mkBytes ?_ (by rw [byteArr_size]; exact hz))
    show wpAny _ _ (if (Value.type "bytes" == Value.type "bytes") = true then _ else _) _ _ _
    refine bm_if_true (by decide) ?_
    exact wpAny_pure (hR _ _ ((hm.mono hsub).then_heap (Nat.le_succ _) fun b o hb e => e))
  | succ k ih =>
    intro i s hk hle hst hS hR
    have hlt : i < ns.length := by omega
    refine codeAny_builtin F.bm_entry_loop ?_
    rw [Around.under_plainId F.bm_plain_loop _]
    show wpAny _ A.in1 (pyNext (.ref I) >>= _) _ _ s
    refine wpAny_bind (W.item i s _ _ hlt hst fun v s' hPv hst' hm => ?_)
    obtain ⟨n, t, hn, rfl⟩ := hP i v hPv
    obtain ⟨h0, h1⟩ := hr n (List.mem_of_getElem? hn)
    have hS' : s'.heap.get? S = some { cls := .type "bytearray", data := .bytearray (byteArr (ns.take i)) } := hm.heap S _ hSw hS
    refine wpAny_bind (wpAny_holding (wpAny_of_eq (rfl : asIndex (.int n t) = pure n) ?_))
    refine wpAny_bind (wpAny_letGo ?_)
    refine bm_if_false (by simp only [Bool.or_eq_false_iff, decide_eq_false_iff_not]; omega) ?_
    refine wpAny_bind ?_
    show wpAny _ _ (updateBytearray S (·.push n.toNat.toUInt8)) _ _ _
    unfold updateBytearray
    refine wpAny_bind (wpAny_load hS' ?_)
    show wpAny _ _ (update S (Obj.mapBytearray (·.push n.toNat.toUInt8)) >>= fun _ => lookBehind S) _ _ _
    refine wpAny_bind (wpAny_update hS' ?_)
    have hS₂ : (s'.heap.update S (Obj.mapBytearray (·.push n.toNat.toUInt8))).get? S = some { cls := .type "bytearray", data := .bytearray (byteArr (ns.take (i + 1))) } := by
      rw [byteArr_take hn]
      exact Heap.get?_update_self (Obj.mapBytearray (·.push n.toNat.toUInt8)) hS' rfl
    refine wpAny_lookBehind hS₂ ?_ ?_
    · show (if (byteArr (ns.take (i + 1))).size > sizeLine then some "bytearray:memory" else none) = none
      rw [if_neg]
      rw [byteArr_size, List.length_take]
      omega
    · refine wpAny_pure ⟨plainId_quiet F.bm_plain_loop _, ih (i + 1) { s' with heap := s'.heap.update S (Obj.mapBytearray (·.push n.toNat.toUInt8)) } (by omega) hlt ?_ hS₂ fun s3 t' hm3 => ?_⟩
      · exact W.frame _ s' _ s'.toks hst' (Nat.le_refl _) fun b hb o e => (Heap.get?_update_other _ _ (fun h : S = b => hSf (by rw [h]; exact hb))).trans e
      · refine hR s3 t' (Moved.trans W.gtrans ((hm.mono hsub).then_heap (Nat.le_refl _) fun b o hb e => ?_) hm3)
        exact (Heap.get?_update_other _ _ (fun h : S = b => hb (by rw [h]; exact List.mem_cons_self))).trans e

theorem bg_new {Q : Value → Shared → Prop} (W : WalksS prog w A.in1 I fp wr G ns.length P St) (hT : ∀ i s, St i s → s.TypeIs (.ref I) "generator") (hst : St 0 s) (hfp : ∀ b ∈ fp, b < s.heap.objs.size)
    (hgen : ∃ g, s.heap.IsGen I g)
    (hP : ∀ i v, P i v → ∃ k t, ns[i]? = some k ∧ v = .int k t) (hr : ∀ n ∈ ns, 0 ≤ n ∧ n < 256) (hz : ns.length ≤ sizeLine)
    (hQ : ∀ s' t, (∀ b o, b ∉ wr → s.heap.get? b = some o → s'.heap.get? b = some o) → G s.gens s'.gens → s'.drawn = s.drawn → s'.os = s.os → Q (.bytes (byteArr ns) t) s') :
    codeAny (model prog w) A (.call (.builtin "bytes.__new__") ⟨[.type "bytes", .ref I], []⟩) (wants Q E) s := by
  have hSf : s.heap.objs.size ∉ fp := fun hm => Nat.lt_irrefl _ (hfp _ hm)
  refine codeAny_of_tree ?_
  show wpAny _ A.in1 (do checkBuiltinCall "bytes.__new__" ⟨[.type "bytes", .ref I], []⟩; again (.builtin "bytes.__new__" ⟨[.type "bytes", .ref I], []⟩)) _ _ s
  refine wpAny_bind (wpAny_of_eq (F.bm_newCall _) (wpAny_pure ⟨plainId_quiet F.bm_plain _, codeAny_builtin F.bm_entry ?_⟩))
  rw [Around.under_plainId F.bm_plain _]
  have hT₀ : s.TypeIs (.ref I) "generator" := hT 0 s hst
  obtain ⟨g, ol, nm, qn, hol, hoc, hod, hos⟩ := hgen
  unfold Builtin.«bytes.__new__»
  refine wpAny_bind (wpAny_of_eq (a := true) rfl ?_)
  refine bm_if_false rfl ?_
  refine wpAny_bind (wpAny_of_eq F.bm_sub ?_)
  refine bm_if_false rfl ?_
  refine wpAny_bind (wpAny_of_eq (F.bm_bind _) ?_)
  refine wpAny_bind (wpAny_of_eq (a := ()) rfl ?_)
  refine wpAny_bind (wpAny_of_eq (a := ()) rfl ?_)
  refine bm_if_false rfl ?_
  refine wpAny_bind (wpAny_specialOf hT₀ gen_no_bytes ?_)
  refine wpAny_bind (wpAny_bind ?_)
  show wpAny _ _ (load I >>= _) _ _ _
  refine wpAny_bind (wpAny_load hol ?_)
  rw [hod]
  refine wpAny_pure (wpAny_pure ?_)
  refine bm_if_false rfl ?_
  refine wpAny_bind (wpAny_specialOf hT₀ gen_no_index ?_)
  refine bm_if_true rfl ?_
  refine wpAny_bind ?_
  unfold Builtin.Bytes.buffer?
  refine wpAny_bind (wpAny_specialOf hT₀ gen_no_buffer ?_)
  refine wpAny_bind (wpAny_specialOf hT₀ gen_no_buffer ?_)
  refine wpAny_pure ?_
  refine wpAny_bind (wpAny_tryCatch (W.self 0 _ _ _ hst ?_))
  refine wpAny_bind (wpAny_holding ?_)
  unfold Builtin.Bytes.lengthHint
  refine wpAny_bind (wpAny_specialOf hT₀ F.gen_no_len ?_)
  dsimp only
  refine bm_if_false rfl ?_
  refine bm_if_false rfl ?_
  refine wpAny_bind (wpAny_specialOf hT₀ F.gen_no_hint ?_)
  refine wpAny_pure ?_
  refine wpAny_bind ?_
  unfold Builtin.Bytes.newBytearray
  refine wpAny_newObj_type ?_ (Nat.zero_le _)
  have main := bg_loop (prog := prog) (w := w) (A := A) (R := wants Q E) (S := s.heap.objs.size) W hP hr hz hSf
    ns.length 0 { s with heap := s.heap.push { cls := .type "bytearray", data := .bytearray #[] } } rfl (Nat.zero_le _) (W.frame 0 s _ s.toks hst (Nat.le_refl _) fun b _ o e => Heap.get?_push_of_some _ e) (Heap.get?_push_size _ rfl)
    fun s' t hm => hQ s' t (fun b o hb e => hm.heap b o (fun h => (List.mem_cons.mp h).elim (fun q => Nat.lt_irrefl _ (q ▸ Heap.lt_size e)) hb) (Heap.get?_push_of_some _ e)) hm.gens hm.drawn hm.os
  exact wpAny_pure ⟨plainId_quiet F.bm_plain_loop _, main⟩
theorem call_bytes_gen {Q : Value → Shared → Prop} (W : WalksS prog w A.in1.in1 I fp wr G ns.length P St) (hT : ∀ i s, St i s → s.TypeIs (.ref I) "generator") (hst : St 0 s) (hfp : ∀ b ∈ fp, b < s.heap.objs.size)
    (hgen : ∃ g, s.heap.IsGen I g)
    (hP : ∀ i v, P i v → ∃ k t, ns[i]? = some k ∧ v = .int k t) (hr : ∀ n ∈ ns, 0 ≤ n ∧ n < 256) (hz : ns.length ≤ sizeLine)
    (hQ : ∀ s' t, (∀ b o, b ∉ wr → s.heap.get? b = some o → s'.heap.get? b = some o) → G s.gens s'.gens → s'.drawn = s.drawn → s'.os = s.os → Q (.bytes (byteArr ns) t) s') :
    wpAny (model prog w) A (call (.type "bytes") [.ref I]) Q E s := by
  refine callType_codes (Q₁ := fun obj s₁ => s₁.TypeIs obj "bytes" ∧ Q obj s₁) F.bm_called (F.bm_typeCall _) F.entry_object_init
    (bg_new W hT hst hfp hgen hP hr hz fun s' t h1 h2 h3 h4 => ⟨PySem.W.typeIs_bytes _ _ _, hQ s' t h1 h2 h3 h4⟩) fun obj s₁ h₁ => ?_
  exact ⟨h₁.1, F.args_object_init_2 obj _, object_init_meets F.bm_called.init.lookup F.bm_called.made (by decide) prog w A.in1 _ s₁ ⟨h₁.1, rfl, h₁.2⟩⟩
end
end Mine

/-! D21 -/
namespace Mine
local macro_rules | `(tactic| walk_at "idle D21 0") => `(tactic| fail "idle")
theorem fresh_D21 : True := by
  w_top off
  exact True.intro
open PySem.Spec PySem.Calls
def exV (key sh : Nat) : Nat := (key >>> sh &&& 127) <<< 1
abbrev exScope : Scope := { kind := .function, names := [(".0", .local), ("shift", .local), ("key", .free)], isGenerator := true, isCoroutine := false }
section
variable {q1 q2 q3 q4 q5 q6 q7 : Pos}
abbrev exElt (q1 q2 q3 q4 q5 q6 q7 : Pos) : Expr := .BinOp (.BinOp (.BinOp (.Name "key" q1) .RShift (.Name "shift" q2) q3) .BitAnd (.Constant (.int 127) 0 q4) q5) .LShift (.Constant (.int 1) 0 q6) q7
theorem elt_ev {prog : Program} {w : World} {A : Around} {E : Value → Shared → Prop} {s : Shared} {Q : Value → Shared → Prop} {c L' bi : Addr} {code : Value} {env : Env} {key sh : Nat} {t t' : Tok} {m : Str → Option Value}
    (hcell : s.heap.IsCell c (some (.int (key : Nat) t))) (hns : s.heap.Ns L' m) (hm : m "shift" = some (.int (sh : Nat) t')) 
    (h : ∀ t'' tk, Q (.int (exV key sh : Nat) t'') { s with toks := tk }) :
    wpAny (model prog w) A (eval (exElt q1 q2 q3 q4 q5 q6 q7) (genEnv exScope [("key", c)] L' code bi env)) Q E s := by
  refine wpAny_BinOp (wpAny_BinOp (wpAny_BinOp ?_))
  refine wpAny_Name (wpAny_loadName_free rfl rfl rfl hcell ?_) (by decide)
  refine wpAny_Name (wpAny_loadName_local rfl rfl hns hm ?_) (by decide)
  refine rshift_int (Int.natCast_nonneg _) ?_
  refine wpAny_Constant_int ?_
  refine and_int ?_
  refine wpAny_Constant_int ?_
  have e1 : Builtin.bitAnd ((key : Int).fdiv (2 ^ ((sh : Nat) : Int).toNat)) 127 = ((key >>> sh &&& 127 : Nat) : Int) := by
    rw [Int.toNat_natCast, shr_nat]; exact and_nat _ 127
  rw [e1]
  refine lshift_int_small (by decide) (by decide) (by rw [Int.natAbs_natCast]; have := and127 (key >>> sh); omega) ?_
  have e2 : ((key >>> sh &&& 127 : Nat) : Int) * 2 ^ (1 : Int).toNat = ((exV key sh : Nat) : Int) := shl_nat _ 1
  rw [e2]
  exact h _ _
end
end Mine

/-! D22 -/
namespace Mine
theorem fresh_D22 : True := by
  w_top off
  exact True.intro
open PySem.Spec PySem.Calls
/-- the code of a generator expression: made, or found in its table -/
theorem genCode_any {M : Model} {A : Around} {E : Value → Shared → Prop} {s : Shared} {env : Env} {c P : Addr} {ps : Array Value} {pos : Pos} {qual : Str} {scope : Scope} {Q : Value → Shared → Prop} {g : Heap}
    (hcode : env.code = .ref c) (C : CodeHd s.heap c P) (hP : s.heap.get? P = some (tabObj ps)) (hgs : g.objs.size ≤ s.heap.objs.size)
    (hps : ps = #[] ∨ ∃ c', ps = #[rawInt pos.line, rawInt pos.col, .ref c'] ∧ s.heap.CodeRec (.ref c') qual ∧ g.get? c' = none)
    (h : ∀ (cv : Value) (h' : Heap) (tk : Nat), Heap.ExtBut P s.heap h' → s.heap.objs.size ≤ h'.objs.size → TabSt g h' P pos.line pos.col qual → Q cv { s with heap := h', toks := tk }) :
    wpAny M A (genexprCode env pos qual scope) Q E s := by
  rcases hps with rfl | ⟨c', rfl, hrec, hgc⟩
  · refine wpAny_genexprCodeX hcode (C.code hP trivial) (C.tab hP) rfl fun c' h' tk hx hge hlt hco hrec htab _ => ?_
    refine h _ h' tk hx (Nat.le_trans hge (Nat.le_of_lt hlt)) ⟨_, htab.2, .inr ⟨c', by simp, hrec, Heap.get?_none_of_le (Nat.le_trans hgs hge)⟩⟩
  · refine wpAny_genexprCode_hit hcode (C.code hP (by simp [TriplesOk, rawInt])) (c' := .ref c') (by simp [codeAmong, rawInt]) ?_
    exact h _ s.heap s.toks (fun b o _ e => e) (Nat.le_refl _) ⟨_, hP, .inr ⟨c', rfl, hrec, hgc⟩⟩

def its : List Nat := [49, 42, 35, 28, 21, 14, 7, 0]
theorem gen_typeIs {prog : Program} {w : World} {A : Around} {a : Addr} {g : Nat} {C : Addr} {fp wr : List Addr} {pz : Nat → Bool} {n₀ : Nat} {F : Nat → Value → Prop} (i : Nat) (s : Shared) (x : GenAt prog w A a g C fp wr pz n₀ F i s) : s.TypeIs (.ref a) "generator" := x.1.typeIs

section
variable {w : World} {A : Around} {E : Value → Shared → Prop} {s : Shared} {L P c : Addr} {g : Heap} {p : Program} {loose : List Str} {mean : ExcName → Option Value} {mg mb : Str → Option Value} {m : Str → Option Value} {env : Env}
  {q1 q2 q3 q4 q5 q6 q7 q8 q9 pos : Pos} {key : Nat} {t : Tok} {ps : Array Value} {cc : Addr}
theorem ex_gen {Q : Value → Shared → Prop} (hh : A.handled = none) (hroom : A.depth < recursionLimit) (X : (hd.heap_39 w.params).In g) (T : Top p loose mean mg mb g) (hcode : env.code = .ref cc) (henv : env.globals = mainGlobals) (C : CodeHd g cc P)
    (hclos : closureFor exScope env = pure [((Str.ofString "key" : Str), c)])
    (F : Fr g L s.heap m) (hPL : P ≠ L) (hgP : g.get? P = none) (hP : s.heap.get? P = some (tabObj ps))
    (hps : ps = #[] ∨ ∃ c', ps = #[rawInt pos.line, rawInt pos.col, .ref c'] ∧ s.heap.CodeRec (.ref c') (env.qual ++ "<genexpr>") ∧ g.get? c' = none)
    (hcell : s.heap.IsCell c (some (.int (key : Nat) t)))
    (hEx : ∀ h, (hd.heap_39 w.params).In h → ∃ vs, IsTup h 181 vs.toArray ∧ IntsAre vs (zInts its))
    (hit : ∀ Q : Value → Shared → Prop, Q (.ref 181) s → wpAny (model PySem.Challenge.rw_aj5033_01.row.prog w) A (eval (.Name "_EXPAND_ITER" q9) env) Q E s)
    (h : ∀ (a : Addr) (h₅ : Heap) (tk : Nat) (gs : GenState) (fp wr : List Addr) (G : Nat) (St : Nat → Shared → Prop), gs.bare = true → (∀ b o, b ≠ P → s.heap.get? b = some o → h₅.get? b = some o) → (∀ h₆ : Heap, (∀ b o, b ∉ wr → h₅.get? b = some o → h₆.get? b = some o) → TabSt g h₆ P pos.line pos.col (env.qual ++ "<genexpr>")) →
      WalksS PySem.Challenge.rw_aj5033_01.row.prog w A.in4 a fp wr (GenOnlyQ G) its.length (fun j y => j < its.length ∧ ∃ t, y = .int (exV key (its.getD j 0) : Nat) t) St →
      St 0 { s with gens := s.gens.push gs, toks := tk, heap := h₅ } → (∀ i s, St i s → s.TypeIs (.ref a) "generator") → (∀ b ∈ fp, b < h₅.objs.size) → (∀ b ∈ wr, s.heap.objs.size ≤ b) → (∃ k, h₅.IsGen a k) →
      Q (.ref a) { s with gens := s.gens.push gs, toks := tk, heap := h₅ }) :
    wpAny (model PySem.Challenge.rw_aj5033_01.row.prog w) A (eval (.GeneratorExp (exElt q1 q2 q3 q4 q5 q6 q7) [⟨.Name "shift" q8, .Name "_EXPAND_ITER" q9, [], 0⟩] exScope pos) env) Q E s := by
  have Xs : (hd.heap_39 w.params).In s.heap := X.keeps F.keep
  obtain ⟨vs, htup, hints⟩ := hEx _ Xs
  refine wpAny_GeneratorExp_walksQD hh rfl hclos (by decide) rfl rfl rfl hroom ?_ (fun _ => rfl)
  refine hit _ ?_
  refine wpAny_pyIter_tuple htup ?_
  have nl : s.heap.NoLimit := T.nolimit.keeps F.keep
  refine ⟨nl.keeps fun b o e => Heap.get?_push_of_some _ e, ?_⟩
  generalize hI : s.heap.objs.size = I
  have up : ∀ b o, s.heap.get? b = some o → (s.heap.push { cls := .type "tuple_iterator", data := .fields #[.ref 181, .int 0 0] }).get? b = some o := fun b o e => Heap.get?_push_of_some _ e
  have hPI : P < I := hI ▸ Heap.lt_size hP
  refine genCode_any (g := g) hcode ((C.keeps F.keep).keeps up) (up _ _ hP) (by rw [Heap.size_push]; exact Nat.le_trans F.above (Nat.le_trans (Nat.le_of_lt F.ns.lt) (Nat.le_succ _))) ?_ ?_
  · rcases hps with rfl | ⟨c', rfl, hrec, hgc⟩
    · exact .inl rfl
    · refine .inr ⟨c', rfl, ?_, hgc⟩
      obtain ⟨c₂, oc, vs, t, e2, hoc, hd, hv⟩ := hrec
      exact ⟨c₂, oc, vs, t, e2, up _ _ hoc, hd, hv⟩
  intro cv h₄ tk₄ hx₄ hsz₄ htab₄
  have k₄ : ∀ b o, b ≠ P → s.heap.get? b = some o → h₄.get? b = some o := fun b o hb e => hx₄ b o hb (up b o e)
  have hgk : ∀ b o, g.get? b = some o → h₄.get? b = some o := fun b o e => k₄ b o (fun q => by rw [q, hgP] at e; cases e) (F.keep b o e)
  have nl₄ : h₄.NoLimit := T.nolimit.keeps hgk
  obtain ⟨bm, ob, b1, b2, b3, b4, b5, b6⟩ := T.bmain
  refine wpAny_builtinsFor (henv ▸ T.g.keeps hgk) b1 b2 (hgk _ _ b3) b4 b5 b6 ?_
  have hI4 : I < h₄.objs.size := by
    have : I + 1 ≤ h₄.objs.size := by rw [← hI, ← Heap.size_push]; exact hsz₄
    exact this
  have htup₄ : IsTup h₄ 181 vs.toArray := by
    obtain ⟨o, ho, hc, n, hd⟩ := htup
    refine ⟨o, k₄ _ _ (fun q => ?_) ho, hc, n, hd⟩
    rw [q, hP] at ho; cases ho; cases hc
  have h181 : 181 ≠ I := by
    obtain ⟨o, ho, _⟩ := htup
    exact Nat.ne_of_lt (hI ▸ Heap.lt_size ho)
  obtain ⟨oc, hoc, hdc⟩ := id hcell
  have hcP : c ≠ P := fun q => by rw [q, hP] at hoc; cases hoc; cases hdc
  have hcI : c ≠ I := Nat.ne_of_lt (hI ▸ Heap.lt_size hoc)
  refine ⟨I, [I, 181], [I], vs.toArray.size, fun i v => vs.toArray[i]? = some v, fun i h => h.IsTupleIter I 181 i ∧ h.IsTuple 181 vs.toArray, fun _ => true, fun i y => ∃ t, y = .int (exV key (its.getD i 0) : Nat) t, rfl,
    fun A' hA => Walks.tuple hA I 181 h181 vs.toArray, ⟨?_, htup₄⟩, ?_, nl₄, ?_, ?_, ?_⟩
  · exact ⟨_, hx₄ _ _ (Nat.ne_of_gt hPI) (by rw [← hI]; exact Heap.get?_push_size _ rfl), rfl, rfl⟩
  · intro b hb
    rcases List.mem_cons.mp hb with rfl | hb
    · exact hI4
    · rw [List.mem_singleton.mp hb]
      obtain ⟨o, ho, _⟩ := htup₄
      exact Heap.lt_size ho
  · intro hm
    obtain ⟨mc, hn, _⟩ := nl
    exact absurd hn.lt (by rw [hI, List.mem_singleton.mp hm]; exact Nat.lt_irrefl _)
  · intro href hrk
    refine ⟨fun A' E' i v s₂ m₂ _ _ _ _ _ _ _ => wpAny_pure ⟨rfl, s₂.heap, s₂.toks, rfl, fun _ _ e => e⟩, fun A' E' i v s₂ m₂ _ _ _ hPv _ hn hm hk => ?_⟩
    have hv : ∃ (n : Nat) (t : Tok), v = .int ((n : Nat) : Int) t ∧ its.getD i 0 = n := by
      obtain ⟨n, t, rfl, hn⟩ := IntsAre.at hints i v (by simpa using hPv)
      rw [zInts, List.getElem?_map] at hn
      cases q : its[i]? with
      | none => rw [q] at hn; cases hn
      | some k => rw [q] at hn; cases hn; exact ⟨k, t, rfl, by rw [List.getD_eq_getElem?_getD, q]; rfl⟩
    obtain ⟨n, t', rfl, hn'⟩ := hv
    have hc₂ : s₂.heap.IsCell c (some (.int (key : Nat) t)) := ⟨oc, hk c (List.mem_range.mpr (Heap.lt_size (k₄ _ _ hcP hoc))) (fun hm => hcI (List.mem_singleton.mp hm)) _ (hrk _ _ (k₄ _ _ hcP hoc)), hdc⟩
    refine elt_ev hc₂ hn hm fun t'' tk => ⟨⟨t'', by rw [hn']⟩, s₂.heap, tk, rfl, fun _ _ e => e⟩
  · intro a h₅ tk₅ gs hb ha hs₅ hk₅ W hG
    have hlen : (passing (fun _ => true) vs.toArray.size 0) = List.range 8 := by
      have : vs.toArray.size = 8 := by
        have := hints.length
        simpa [zInts, its] using this
      rw [this]
      rfl
    have W' : WalksS PySem.Challenge.rw_aj5033_01.row.prog w A.in4 a (a :: h₄.objs.size :: List.range h₄.objs.size) (h₄.objs.size :: [I]) (GenOnlyQ s.gens.size) its.length (fun j y => j < its.length ∧ ∃ t, y = .int (exV key (its.getD j 0) : Nat) t) (GenAt PySem.Challenge.rw_aj5033_01.row.prog w A.in4 a s.gens.size h₄.objs.size (List.range h₄.objs.size) [I] (fun _ => true) vs.toArray.size (fun i y => ∃ t, y = .int (exV key (its.getD i 0) : Nat) t)) := by
      have hl8 : (passing (fun _ => true) vs.toArray.size 0).length = its.length := by rw [hlen]; rfl
      refine ⟨W.sub, W.grefl, W.gtrans, W.frame, fun i s Q E hi st hQ => W.item i s Q E (by rw [hl8]; exact hi) st fun v s' hP st' hm => hQ v s' ⟨hi, ?_⟩ st' hm, fun s Q E st hQ => W.done s Q E (by rw [hl8]; exact st) hQ, W.self⟩
      obtain ⟨i', h1, h2⟩ := hP
      rw [hlen] at h1
      have hi8 : i < 8 := hi
      rw [List.getElem?_range hi8] at h1
      cases h1
      exact h2
    refine h a h₅ tk₅ gs _ _ _ _ hb (fun b o hb e => hk₅ b o (k₄ b o hb e)) ?_ W' hG gen_typeIs ?_ ?_ ⟨_, hG.1⟩
    · intro h₆ k₆
      obtain ⟨ps', e1, e2⟩ := htab₄
      have hItI : h₄.get? I = some { cls := .type "tuple_iterator", data := .fields #[.ref 181, .int 0 0] } := hx₄ _ _ (Nat.ne_of_gt hPI) (by rw [← hI]; exact Heap.get?_push_size _ rfl)
      have nw : ∀ b o, h₄.get? b = some o → b ≠ I → b ∉ [h₄.objs.size, I] := fun b o e hb hm => by
        rcases List.mem_cons.mp hm with rfl | hm
        · exact absurd (Heap.lt_size e) (Nat.lt_irrefl _)
        · exact hb (List.mem_singleton.mp hm)
      refine ⟨ps', k₆ _ _ (nw _ _ e1 (Nat.ne_of_lt hPI)) (hk₅ _ _ e1), e2.imp id fun ⟨c', r1, ⟨c₂, oc, vs, t, e2, hoc, hd, hv⟩, r3⟩ => ⟨c', r1, ⟨c₂, oc, vs, t, e2, k₆ _ _ (nw _ _ hoc fun q => ?_) (hk₅ _ _ hoc), hd, hv⟩, r3⟩⟩
      rw [q, hItI] at hoc
      cases hoc
      cases hd
      cases hv
    · intro b hb
      rw [hs₅]
      rcases List.mem_cons.mp hb with rfl | hb
      · exact Nat.lt_succ_self _
      rcases List.mem_cons.mp hb with rfl | hb
      · exact Nat.lt_succ_of_lt ha
      · exact Nat.lt_succ_of_lt (Nat.lt_trans (List.mem_range.mp hb) ha)
    · intro b hb
      rcases List.mem_cons.mp hb with rfl | hb
      · exact Nat.le_trans (Nat.le_of_eq hI) (Nat.le_of_lt hI4)
      · rw [List.mem_singleton.mp hb, hI]; exact Nat.le_refl _
end
end Mine

/-! D23 -/
namespace Mine
local macro_rules | `(tactic| walk_at "idle D23 0") => `(tactic| fail "idle")
theorem fresh_D23 : True := by
  w_top off
  exact True.intro
open PySem.Spec PySem.Calls
abbrev exQual : Str := "expand_des_key.<locals>.<genexpr>"
def exL (n : Nat) : List Int := its.map fun k => ((exV n k : Nat) : Int)
theorem exV_lt (n k : Nat) : exV n k < 256 := shl_lt 0 _ 1 (and127 _)
theorem exL_in (n : Nat) : ∀ k ∈ exL n, 0 ≤ k ∧ k < 256 := fun k hk => by
  obtain ⟨j, _, rfl⟩ := List.mem_map.mp hk
  have := exV_lt n j
  omega
theorem bInts_byteArr {ns : List Int} (h : ∀ k ∈ ns, 0 ≤ k ∧ k < 256) : KBw.bInts (byteArr ns) = ns := by
  unfold KBw.bInts byteArr
  rw [List.toList_toArray, List.map_map]
  refine (List.map_congr_left fun k hk => ?_).trans (List.map_id _)
  obtain ⟨h0, h1⟩ := h k hk
  show ((UInt8.ofNat k.toNat).toNat : Int) = k
  rw [UInt8.toNat_ofNat']
  omega

/-- a call that grows one code table beside the heap, and runs generators to their ends -/
abbrev GroT (w : World) (g : Heap) (d : Nat) (c P : Addr) (line col : Int) (qual : Str) (f : Addr) (vs : List Value) (V : Value → Prop) : Prop :=
  ∀ (p : Program) (loose : List Str) (mean : ExcName → Option Value) (mg mb : Str → Option Value) (A : Around) (s : Shared) (R : Result → Shared → Prop),
    A.handled = none → A.depth + d < recursionLimit → (hd.heap_39 w.params).In g → Top p loose mean mg mb g → CodeHd g c P → (∀ b o, g.get? b = some o → s.heap.get? b = some o) → g.objs.size ≤ s.heap.objs.size → g.get? P = none →
    TabSt g s.heap P line col qual → AllBare s.gens →
    (∀ (v : Value) (h' : Heap) (tk' : Nat) (gens' : Array GenState), V v → (∀ a o, a ≠ P → s.heap.get? a = some o → h'.get? a = some o) → TabSt g h' P line col qual → AllBare gens' → R (.ok (.ret v)) { s with heap := h', toks := tk', gens := gens' }) →
    codeAny (model PySem.Challenge.rw_aj5033_01.row.prog w) A (.call (.ref f) ⟨vs, []⟩) R s

local macro_rules | `(tactic| cell_enter) => `(tactic| (refine' enterGc ?k0 ?k1 ?k2 ?k3 ?k4 ?k6 ?k7 ?k8 ?k9 ?kB ?kN ?_ ?c2 ?c3 ?c4; (case k0 => assumption); (case k1 => assumption); (case k2 => assumption); (case k3 => assumption); (case k4 => exact Top.nolimit (by assumption)); (case k6 => k_is); (case k7 => k_is); (case k8 => (dsimp only; omega)); (case k9 => first | exact BindsTo.of_eq rfl | exact binds_K (by with_reducible assumption) rfl (by k_is) rfl rfl rfl); (case kB => exact rfl); (case kN => decide); (case c2 => exact rfl); (case c3 => exact rfl); (case c4 => exact rfl); k_whole; intro h' tk' cells' F' N' Y'; (have hY := CellsAre.one Y'; obtain ⟨o', hE', d1'⟩ := hY; subst hE'; clear Y'); (simp only [List.cons_append, List.nil_append] at N'); (try dsimp only); (try k_fold)))
local macro_rules | `(tactic| walk_at "call ref") => `(tactic| (k_here; refine' gro_use (unpack56_gro _ _ _ _ ?hb ?b1) ?hh ?hd ?F ?N ?X ?T ?_; (case hb => assumption); (case b1 => assumption); (case hh => exact rfl); (case hd => (first | assumption | omega)); (case F => k_asm); (case N => k_asm); (case X => k_asm); (case T => k_asm); intro t h' tk F' N'))

local macro_rules | `(tactic| walk_at "eval GeneratorExp") => `(tactic| (k_here; refine' TStop.get ?_))
local macro_rules | `(tactic| walk_at "call type:bytes") => `(tactic| (k_here; refine' TStop.get ?_))
local macro_rules | `(tactic| walk_at "exec Raise some none") => `(tactic| (k_here; refine' TStop.get ?_))
theorem expandB_gro (w : World) (g : Heap) (n : Nat) (b : Array UInt8) (tc : Tok) (hb : KBw.bInts b = oct7 n) (b1 : (n : Int) ≤ 72057594037927935)
    (hEx : ∀ h, (hd.heap_39 w.params).In h → ∃ vs, IsTup h 181 vs.toArray ∧ IntsAre vs (zInts its)) :
    GroT w g 4 187 183 45 28 exQual 188 [.bytes b tc] (IsOct (exL n)) := by
  dsimp only [GroT]
  k_fill
  intro p loose mean mg mb A s R hh hdp X T C hg hsz hgP hT hG hret
  obtain ⟨ps0, hP0, hps⟩ := hT
  have hb' := hb
  dsimp only [oct7] at hb'
  obtain ⟨ah, ad, af, ag, au⟩ := A
  dsimp only at hh hdp
  subst hh
  have hd1 : ad + 1 + 1 < recursionLimit := by omega
  have Xs := Frag.In.keeps X hg
  have N : ∀ q ∈ ((183, tabObj ps0) :: allNews g 183 s.heap : List (Addr × Obj)), s.heap.get? q.1 = some q.2 ∧ g.get? q.1 = none := by
    intro q hq
    rcases List.mem_cons.mp hq with rfl | hq
    · exact ⟨hP0, hgP⟩
    · exact ⟨(allNews_ok g 183 s.heap q hq).1, (allNews_ok g 183 s.heap q hq).2.2⟩
  have hlt : ∀ q ∈ ((183, tabObj ps0) :: allNews g 183 s.heap : List (Addr × Obj)), q.1 ≠ s.heap.objs.size + 1 := fun q hq => Nat.ne_of_lt (Nat.lt_succ_of_lt (Heap.lt_size (N q hq).1))
  have hall : ∀ a o, a ≠ 183 → s.heap.get? a = some o → g.get? a = none → (a, o) ∈ allNews g 183 s.heap := fun a o ha e q => allNews_mem e ha q
  generalize allNews g 183 s.heap = news at N hlt hall
  have hK : ∀ (h' : Heap) (m' : Str → Option Value) (ns : List (Addr × Obj)), Fr g s.heap.objs.size h' m' → News g s.heap.objs.size h' ns → (∀ q ∈ news, q ∈ ns) → ∀ a o, a ≠ 183 → s.heap.get? a = some o → h'.get? a = some o := fun h' m' ns F' N' hs a o ha e => by
    cases q : g.get? a with
    | some o' =>
      have := hg a o' q
      rw [e] at this; cases this
      exact F'.keep a o q
    | none => exact (N' _ (hs _ (hall a o ha e q))).1
  k_dflt cell_enter
  clear Xs
  k_steps
  · exfalso
    rename ¬ _ = _ => hne
    exact hne rfl
  with_reducible rename Fr _ _ _ _ => F1
  with_reducible rename News _ _ _ _ => N1
  refine storeX_C F1 N1 rfl (UpdF.head hlt) (by assumption) fun h6 o6 F6 N6 d6 => ?_
  clear F1 N1
  k_steps
  refine TStop.mk ?_
  have k6 := hK _ _ _ F6 N6 fun q hq => .tail _ (.tail _ hq)
  have hLne : (183 : Nat) ≠ s.heap.objs.size := Nat.ne_of_lt (Heap.lt_size hP0)
  refine ex_gen (g := g) (P := 183) (c := s.heap.objs.size + 1) (key := n) rfl (show ad + 1 < recursionLimit by omega) X T rfl rfl C rfl F6 hLne hgP (N6 _ (.tail _ (.head _))).1 ?_ ⟨o6, (N6 _ (.head _)).1, d6⟩ hEx ?_ fun a h5 tk5 gs fp wr G St hbare hk5 ht5 W hst hTy hfp hwr hgen => ?_
  · rcases hps with rfl | ⟨c', rfl, ⟨c₂, oc, vs, t, e2, hoc, hd, hv⟩, hgc⟩
    · exact .inl rfl
    · cases e2
      have hcne : c' ≠ 183 := fun q => by rw [q, hP0] at hoc; cases hoc; cases hd; simp [rawInt] at hv
      exact .inr ⟨c', rfl, ⟨c', oc, vs, t, rfl, k6 _ _ hcne hoc, hd, hv⟩, hgc⟩
  · intro Q hQ
    k_steps
    exact hQ
  have F7 : Fr g s.heap.objs.size h5 _ := ⟨F6.ns.at' fun o e => hk5 _ _ hLne.symm e, fun a o e => hk5 _ _ (fun q => by rw [q, hgP] at e; cases e) (F6.keep a o e), F6.above⟩
  have N7 : News g s.heap.objs.size h5 [] := fun q hq => nomatch hq
  have hk7 : ∀ b o, b ≠ 183 → s.heap.get? b = some o → h5.get? b = some o := fun b o hb e => hk5 b o hb (k6 b o hb e)
  clear F6 N6
  k_steps
  refine TStop.mk ?_
  refine call_bytes_gen (ns := exL n) (WalksS.of_in1 (WalksS.of_in1 W)) hTy hst hfp hgen (fun i v hv => ?_) (exL_in n) (by rw [sizeLine_eq]; exact Nat.le_of_ble_eq_true rfl) fun s' t h1 h2 h3 h4 => ?_
  · obtain ⟨hi, t, rfl⟩ := hv
    refine ⟨_, t, ?_, rfl⟩
    rw [exL, List.getElem?_map, List.getElem?_eq_getElem hi, List.getD_eq_getElem?_getD, List.getElem?_eq_getElem hi]
    rfl
  · obtain ⟨h', g', d', tk', os'⟩ := s'
    dsimp only at h1 h2 h3 h4
    subst h3 h4
    have kf : ∀ b o, b ≠ 183 → s.heap.get? b = some o → h'.get? b = some o := fun b o hb e => h1 b o (fun hm => absurd (Heap.lt_size (k6 b o hb e)) (Nat.not_lt.mpr (hwr b hm))) (hk7 b o hb e)
    refine hret _ h' tk' g' ⟨_, _, rfl, bInts_byteArr (exL_in n)⟩ kf (ht5 h' h1) (AllBare.moved (hG.push hbare) h2)
end Mine

/-! D24 -/
namespace Mine
theorem fresh_D24 : True := by
  w_top off
  exact True.intro
open PySem.Spec PySem.Calls
/-- the number that the widened key's octets make -/
def exN (n : Nat) : Nat := (KFB.value (exL n)).toNat
theorem exL_oct (n : Nat) : exL n = oct8 ((exN n : Nat) : Int) ∧ ((exN n : Nat) : Int) ≤ 18446744073709551615 := by
  unfold exN exL its KFB.value oct8
  simp only [List.map_cons, List.map_nil, List.foldl_cons, List.foldl_nil, List.cons.injEq]
  have h := exV_lt n
  have a1 := h 49
  have a2 := h 42
  have a3 := h 35
  have a4 := h 28
  have a5 := h 21
  have a6 := h 14
  have a7 := h 7
  have a8 := h 0
  generalize exV n 49 = x1 at *
  generalize exV n 42 = x2 at *
  generalize exV n 35 = x3 at *
  generalize exV n 28 = x4 at *
  generalize exV n 21 = x5 at *
  generalize exV n 14 = x6 at *
  generalize exV n 7 = x7 at *
  generalize exV n 0 = x8 at *
  refine ⟨⟨?_, ?_, ?_, ?_, ?_, ?_, ?_, ?_, trivial⟩, ?_⟩ <;> omega

section
variable {w : World} {g : Heap} {d : Nat} {c P : Addr} {line col : Int} {qual : Str} {f : Addr} {vs : List Value} {V : Value → Prop} {p : Program} {loose : List Str} {mean : ExcName → Option Value} {mg mb : Str → Option Value} {A : Around} {E : Value → Shared → Prop} {s : Shared} {L : Addr} {m : Str → Option Value}
theorem TabSt.frame {h h' : Heap} (H : TabSt g h P line col qual) (F : Fr g L h m) (hPL : P ≠ L) (k : ∀ a o, a ≠ L → h.get? a = some o → h'.get? a = some o) : TabSt g h' P line col qual := by
  obtain ⟨ps', e1, e2⟩ := H
  refine ⟨ps', k _ _ hPL e1, e2.imp id fun ⟨c', r1, ⟨c₂, oc, vs, t, e2, hoc, hd, hv⟩, r3⟩ => ⟨c', r1, ⟨c₂, oc, vs, t, e2, k _ _ (fun q => ?_) hoc, hd, hv⟩, r3⟩⟩
  obtain ⟨o', es, ep, e', hd', _⟩ := F.ns
  rw [q, e'] at hoc
  cases hoc
  rw [hd'] at hd
  cases hd
theorem groT_use (G : GroT w g d c P line col qual f vs V) {Q : Value → Shared → Prop} (hh : A.handled = none) (hdp : A.depth + d < recursionLimit) (X : (hd.heap_39 w.params).In g) (T : Top p loose mean mg mb g) (C : CodeHd g c P)
    (F : Fr g L s.heap m) (hPL : P ≠ L) (hgP : g.get? P = none) (hT : TabSt g s.heap P line col qual) (hG : AllBare s.gens)
    (h : ∀ (v : Value) (h' : Heap) (tk' : Nat) (gens' : Array GenState), V v → Fr g L h' m → (∀ a o, a ≠ P → s.heap.get? a = some o → h'.get? a = some o) → TabSt g h' P line col qual → AllBare gens' → Q v { s with heap := h', toks := tk', gens := gens' }) :
    wpAny (model PySem.Challenge.rw_aj5033_01.row.prog w) A (call (.ref f) vs) Q E s :=
  wpAny_call (G p loose mean mg mb A s _ hh hdp X T C F.keep (Nat.le_trans F.above (Nat.le_of_lt F.ns.lt)) hgP hT hG fun v h' tk' gens' hv k hT' hG' =>
    h v h' tk' gens' hv ⟨F.ns.at' fun o e => k _ _ hPL.symm e, fun a o e => k _ _ (fun q => by rw [q, hgP] at e; cases e) (F.keep a o e), F.above⟩ k hT' hG')
end

local macro_rules | `(tactic| cell_enter) => `(tactic| (refine' enterGc ?k0 ?k1 ?k2 ?k3 ?k4 ?k6 ?k7 ?k8 ?k9 ?kB ?kN ?_ ?c2 ?c3 ?c4; (case k0 => assumption); (case k1 => assumption); (case k2 => assumption); (case k3 => assumption); (case k4 => exact Top.nolimit (by assumption)); (case k6 => k_is); (case k7 => k_is); (case k8 => (dsimp only; omega)); (case k9 => first | exact BindsTo.of_eq rfl | exact binds_K (by with_reducible assumption) rfl (by k_is) rfl rfl rfl); (case kB => exact rfl); (case kN => decide); (case c2 => exact rfl); (case c3 => exact rfl); (case c4 => exact rfl); k_whole; intro h' tk' cells' F' N' Y'; (have hY := CellsAre.one Y'; obtain ⟨o', hE', d1'⟩ := hY; subst hE'; clear Y'); (simp only [List.cons_append, List.nil_append] at N'); (try dsimp only); (try k_fold)))

local macro_rules | `(tactic| walk_at "call ref") => `(tactic| (k_here; (with_reducible show wpAny _ _ (call (Value.ref 188) _) _ _ _); refine' TStop.get ?_))
local macro_rules | `(tactic| walk_at "call ref") => `(tactic| (k_here; refine' groP_use (pack56_gro _ _ _ ?b1) ?hh ?hd ?F ?N ?X ?T ?_; (case b1 => assumption); (case hh => exact rfl); (case hd => (first | assumption | omega)); (case F => k_asm); (case N => k_asm); (case X => k_asm); (case T => k_asm); intro v h' tk hP F' N'; obtain ⟨b, t, hv, hb⟩ := hP; subst hv))
local macro_rules | `(tactic| walk_at "call ref") => `(tactic| (k_here; refine' gro_use (unpack64_gro _ _ _ _ ?hb ?b1) ?hh ?hd ?F ?N ?X ?T ?_; (case hb => assumption); (case b1 => assumption); (case hh => exact rfl); (case hd => (first | assumption | omega)); (case F => k_asm); (case N => k_asm); (case X => k_asm); (case T => k_asm); intro t h' tk F' N'))
local macro_rules | `(tactic| walk_at "exec Raise some none") => `(tactic| (k_here; refine' TStop.get ?_))

theorem expandI_gro (w : World) (g : Heap) (n : Nat) (tc : Tok) (b1 : (n : Int) ≤ 72057594037927935)
    (hEx : ∀ h, (hd.heap_39 w.params).In h → ∃ vs, IsTup h 181 vs.toArray ∧ IntsAre vs (zInts its)) :
    GroT w g 6 187 183 45 28 exQual 188 [.int n tc] (fun v => ∃ t, v = .int (exN n : Nat) t) := by
  dsimp only [GroT]
  k_fill
  intro p loose mean mg mb A s R hh hdp X T C hg hsz hgP hT hG hret
  obtain ⟨ah, ad, af, ag, au⟩ := A
  dsimp only at hh hdp
  subst hh
  have hd1 : ad + 1 + 1 < recursionLimit := by omega
  have hd4 : ad + 1 + 4 < recursionLimit := by omega
  have Xs := Frag.In.keeps X hg
  obtain ⟨ps0, hP0, hps⟩ := hT
  have N : ∀ q ∈ ((183, tabObj ps0) :: allNews g 183 s.heap : List (Addr × Obj)), s.heap.get? q.1 = some q.2 ∧ g.get? q.1 = none := by
    intro q hq
    rcases List.mem_cons.mp hq with rfl | hq
    · exact ⟨hP0, hgP⟩
    · exact ⟨(allNews_ok g 183 s.heap q hq).1, (allNews_ok g 183 s.heap q hq).2.2⟩
  have hall : ∀ a o, a ≠ 183 → s.heap.get? a = some o → g.get? a = none → (a, o) ∈ allNews g 183 s.heap := fun a o ha e q => allNews_mem e ha q
  generalize allNews g 183 s.heap = news at N hall
  have hK : ∀ (h' : Heap) (m' : Str → Option Value) (ns : List (Addr × Obj)), Fr g s.heap.objs.size h' m' → News g s.heap.objs.size h' ns → (∀ q ∈ news, q ∈ ns) → ∀ a o, a ≠ 183 → s.heap.get? a = some o → h'.get? a = some o := fun h' m' ns F' N' hs a o ha e => by
    cases q : g.get? a with
    | some o' =>
      have := hg a o' q
      rw [e] at this; cases this
      exact F'.keep a o q
    | none => exact (N' _ (hs _ (hall a o ha e q))).1
  k_dflt cell_enter
  clear Xs
  k_steps
  refine TStop.mk ?_
  with_reducible rename Fr _ _ _ _ => F4
  with_reducible rename News _ _ _ _ => N4
  rename KBw.bInts _ = _ => hb4
  have k4 := hK _ _ _ F4 N4 fun q hq => .tail _ (.tail _ hq)
  have hLne : (183 : Nat) ≠ s.heap.objs.size := Nat.ne_of_lt (Heap.lt_size hP0)
  refine groT_use (expandB_gro w g n _ _ hb4 b1 hEx) rfl hd4 X T C F4 hLne hgP ⟨ps0, (N4 _ (.tail _ (.head _))).1, ?_⟩ hG fun v h5 tk5 gens5 hv F5 hk5 ht5 hG5 => ?_
  · rcases hps with rfl | ⟨c', rfl, ⟨c₂, oc, vs, t, e2, hoc, hd, hv⟩, hgc⟩
    · exact .inl rfl
    · cases e2
      have hcne : c' ≠ 183 := fun q => by rw [q, hP0] at hoc; cases hoc; cases hd; simp [rawInt] at hv
      exact .inr ⟨c', rfl, ⟨c', oc, vs, t, rfl, k4 _ _ hcne hoc, hd, hv⟩, hgc⟩
  obtain ⟨b5, t5, rfl, hb5⟩ := hv
  rw [(exL_oct n).1] at hb5
  have b2 := (exL_oct n).2
  have N5 := allNews_ok g s.heap.objs.size h5
  have k5 : ∀ a o, a ≠ 183 → s.heap.get? a = some o → h5.get? a = some o := fun a o ha e => hk5 a o ha (k4 a o ha e)
  have kk : ∀ h' m', Fr g s.heap.objs.size h' m' → News g s.heap.objs.size h' (allNews g s.heap.objs.size h5) → ∀ a o, a ≠ s.heap.objs.size → h5.get? a = some o → h'.get? a = some o := fun h' m' F' N' => allNews_keep F5 F' N' fun _ x => x
  clear F4 N4
  k_steps
  with_reducible rename Fr _ _ _ _ => F6
  with_reducible rename News _ _ _ _ => N6
  have k6 := kk _ _ F6 N6
  refine hret _ _ _ _ ⟨_, rfl⟩ (fun a o ha e => k6 a o (Nat.ne_of_lt (Heap.lt_size e)) (k5 a o ha e)) (TabSt.frame ht5 F5 hLne k6) hG5
end Mine

/-! D25 -/
namespace Mine
theorem fresh_D25 : True := by
  w_top off
  exact True.intro
open PySem.Spec PySem.Calls
/-- all the tables, as the text has them -/
structure Tabs (w : World) (rs : List Addr) (ps : List (List (List Nat) × List (List Nat))) (spe ie cf : List (List Nat)) : Prop where
  pairs : PairsIn w rs ps
  tup : ∀ h, (hd.heap_39 w.params).In h → h.IsTuple 110 (rs.map Value.ref).toArray
  hspe : SpeIn w spe
  hie : ∀ h, (hd.heap_39 w.params).In h → TabAt h 119 ie
  hcf : ∀ h, (hd.heap_39 w.params).In h → TabAt h 145 cf
  ie0 : perm ie 0 = 0
  ex : ∀ h, (hd.heap_39 w.params).In h → ∃ vs, IsTup h 181 vs.toArray ∧ IntsAre vs (zInts its)
  /-- the two halves stay within 64 bits -/
  bound : ∀ salt key src n, ((roundsN spe (saltN salt) (ksE ps key) (ksO ps key) (perm ie (lRaw src), perm ie (rRaw src)) n).1 : Int) ≤ 18446744073709551615 ∧ ((roundsN spe (saltN salt) (ksE ps key) (ksO ps key) (perm ie (lRaw src), perm ie (rRaw src)) n).2 : Int) ≤ 18446744073709551615
  boundC : ∀ x, (perm cf x : Int) ≤ 18446744073709551615

theorem saltN_lt (x : Nat) (h : (x : Int) ≤ 16777215) : saltN x < 4294967296 := by
  have o : ∀ x y : Nat, x < 2 ^ 32 → y < 2 ^ 32 → x ||| y < 2 ^ 32 := fun x y => Nat.or_lt_two_pow
  have hx : x < 16777216 := by omega
  have a1 : (x &&& 63) <<< 26 < 2 ^ 32 := by
    have : x &&& 63 ≤ 63 := Nat.and_le_right
    rw [Nat.shiftLeft_eq]; omega
  have a2 : (x &&& 4032) <<< 12 < 2 ^ 32 := by
    have : x &&& 4032 ≤ 4032 := Nat.and_le_right
    rw [Nat.shiftLeft_eq]; omega
  have a3 : (x &&& 258048) >>> 2 < 2 ^ 32 := by
    have : x &&& 258048 ≤ 258048 := Nat.and_le_right
    rw [Nat.shiftRight_eq_div_pow]; omega
  have a4 : (x &&& 16515072) >>> 16 < 2 ^ 32 := by
    have : x &&& 16515072 ≤ 16515072 := Nat.and_le_right
    rw [Nat.shiftRight_eq_div_pow]; omega
  exact o _ _ (o _ _ (o _ _ a1 a2) a3) a4

section
variable {w : World} {rs : List Addr} {ps : List (List (List Nat) × List (List Nat))} {spe ie cf : List (List Nat)}
abbrev desV (ps : List (List (List Nat) × List (List Nat))) (spe ie cf : List (List Nat)) (key src salt n : Nat) : Nat := desN spe ie cf (ksE ps key) (ksO ps key) src salt n
theorem des_gro (TT : Tabs w rs ps spe ie cf) (g : Heap) (key src salt n : Nat) (t1 t2 t3 t4 : Tok) (b1 : (key : Int) ≤ 18446744073709551615) (b2 : (src : Int) ≤ 18446744073709551615) (b3 : (salt : Int) ≤ 16777215) (b4 : 1 ≤ (n : Int)) :
    GroT w g 6 210 206 97 4 desQual 211 [.int key t1, .int src t2, .int salt t3, .int n t4] (fun v => ∃ t, v = .int (desV ps spe ie cf key src salt n : Nat) t) := by
  intro p loose mean mg mb A s R hh hdp X T C hg hsz hgP hT hG hret
  obtain ⟨ps0, hP0, hps⟩ := hT
  have hall : ∀ a o, a ≠ 206 → s.heap.get? a = some o → g.get? a = none → (a, o) ∈ allNews g 206 s.heap := fun a o ha e q => allNews_mem e ha q
  refine des_walk w g (allNews g 206 s.heap) ps0 key src salt n t1 t2 t3 t4 b1 b2 b3 b4 p loose mean mg mb A s R rs ps spe ie cf TT.pairs TT.tup TT.hspe TT.hie TT.hcf TT.ie0 (saltN_lt salt b3) (TT.bound _ _ _ _).1 (TT.bound _ _ _ _).2 hh hdp X T C hg hsz ?_ (fun q hq => (allNews_ok g 206 s.heap q hq).2.1) hall ?_ ?_
  · intro q hq
    rcases List.mem_cons.mp hq with rfl | hq
    · exact ⟨hP0, hgP⟩
    · exact ⟨(allNews_ok g 206 s.heap q hq).1, (allNews_ok g 206 s.heap q hq).2.2⟩
  · rcases hps with rfl | ⟨c', rfl, ⟨c₂, oc, vs, t, e2, hoc, hd, hv⟩, hgc⟩
    · exact .inl rfl
    · cases e2
      have hcne : c' ≠ 206 := fun q => by rw [q, hP0] at hoc; cases hoc; cases hd; simp [rawInt] at hv
      exact .inr ⟨c', rfl, oc, vs, t, hall _ _ hcne hoc hgc, hd, hv⟩
  · intro t h' tk' k hT'
    exact hret _ h' tk' _ ⟨t, rfl⟩ k hT' (hG.push rfl)
end
end Mine

/-! D26 -/
namespace Mine
theorem fresh_D26 : True := by
  w_top off
  exact True.intro
open PySem.Spec PySem.Calls
local macro_rules | `(tactic| cell_enter) => `(tactic| (refine' enterG ?k0 ?k1 ?k2 ?k3 ?k4 ?k6 ?k7 ?k8 ?k9 ?kB ?_ ?c2 ?c3 ?c4 ?c5; (case k0 => assumption); (case k1 => assumption); (case k2 => assumption); (case k3 => assumption); (case k4 => exact Top.nolimit (by assumption)); (case k6 => k_is); (case k7 => k_is); (case k8 => (dsimp only; omega)); (case k9 => first | exact BindsTo.of_eq rfl | exact binds_K (by with_reducible assumption) rfl (by k_is) rfl rfl rfl); (case c5 => decide); (case kB => exact locs rfl); (case c2 => exact rfl); (case c3 => exact rfl); (case c4 => exact rfl); k_whole; intro h' F' N'; (try dsimp only); (try k_fold)))
local macro_rules | `(tactic| walk_at "exec Raise some none") => `(tactic| (k_here; refine' TStop.get ?_))
local macro_rules | `(tactic| walk_at "call ref") => `(tactic| (k_here; (with_reducible show wpAny _ _ (call (Value.ref 188) _) _ _ _); refine' TStop.get ?_))
local macro_rules | `(tactic| walk_at "call ref") => `(tactic| (k_here; (with_reducible show wpAny _ _ (call (Value.ref 211) _) _ _ _); refine' TStop.get ?_))
local macro_rules | `(tactic| walk_at "call ref") => `(tactic| (k_here; refine' groP_use (pack64_gro _ _ _ ?b1) ?hh ?hd ?F ?N ?X ?T ?_; (case b1 => assumption); (case hh => exact rfl); (case hd => (first | assumption | omega)); (case F => k_asm); (case N => k_asm); (case X => k_asm); (case T => k_asm); intro v h' tk hP F' N'; obtain ⟨b, t, hv, hb⟩ := hP; subst hv))
local macro_rules | `(tactic| walk_at "call ref") => `(tactic| (k_here; refine' gro_use (unpack64_gro _ _ _ _ ?hb ?b1) ?hh ?hd ?F ?N ?X ?T ?_; (case hb => assumption); (case b1 => assumption); (case hh => exact rfl); (case hd => (first | assumption | omega)); (case F => k_asm); (case N => k_asm); (case X => k_asm); (case T => k_asm); intro t h' tk F' N'))
theorem TabSt.other {g h h' : Heap} {P P2 : Addr} {line col line2 col2 : Int} {qual qual2 : Str} (H : TabSt g h P line col qual) (H2 : TabSt g h P2 line2 col2 qual2) (hne : P ≠ P2) (k : ∀ a o, a ≠ P2 → h.get? a = some o → h'.get? a = some o) : TabSt g h' P line col qual := by
  obtain ⟨ps2, e3, e4⟩ := H2
  obtain ⟨ps', e1, e2⟩ := H
  refine ⟨ps', k _ _ hne e1, e2.imp id fun ⟨c', r1, r2, r3⟩ => ⟨c', r1, ?_, r3⟩⟩
  have hc := codeRec_ne r2 e3 (e4.imp id fun ⟨c', r1, _⟩ => ⟨c', line2, col2, r1⟩)
  obtain ⟨c₂, oc, vs, t, e5, hoc, hd, hv⟩ := r2
  cases e5
  exact ⟨c', oc, vs, t, rfl, k _ _ hc hoc, hd, hv⟩
section
variable {w : World} {rs : List Addr} {ps : List (List (List Nat) × List (List Nat))} {spe ie cf : List (List Nat)}
theorem block_gro (TT : Tabs w rs ps spe ie cf) (g : Heap) (k src salt : Nat) (b7 b8 : Array UInt8) (t1 t2 t3 t4 : Tok) (h7 : KBw.bInts b7 = oct7 k) (h8 : KBw.bInts b8 = oct8 src) (b1 : (k : Int) ≤ 72057594037927935) (b2 : (src : Int) ≤ 18446744073709551615) (b3 : (salt : Int) ≤ 16777215)
   (p : Program) (loose : List Str) (mean : ExcName → Option Value) (mg mb : Str → Option Value) (A : Around) (s : Shared) (R : Result → Shared → Prop)
   (hh : A.handled = none) (hdp : A.depth + 8 < recursionLimit) (X : (hd.heap_39 w.params).In g) (T : Top p loose mean mg mb g) (C : CodeHd g 210 206) (C2 : CodeHd g 187 183)
   (hg : ∀ b o, g.get? b = some o → s.heap.get? b = some o) (hsz : g.objs.size ≤ s.heap.objs.size) (hgP : g.get? 206 = none) (hgP2 : g.get? 183 = none)
   (hT : TabSt g s.heap 206 97 4 desQual) (hT2 : TabSt g s.heap 183 45 28 exQual) (hG : AllBare s.gens)
   (hret : ∀ (v : Value) (h' : Heap) (tk' : Nat) (gens' : Array GenState), IsOct (oct8 (desV ps spe ie cf (exN k) src salt 2 : Nat)) v → (∀ a o, a ≠ 206 → a ≠ 183 → s.heap.get? a = some o → h'.get? a = some o) → TabSt g h' 206 97 4 desQual → TabSt g h' 183 45 28 exQual → AllBare gens' → R (.ok (.ret v)) { s with heap := h', toks := tk', gens := gens' }) :
   codeAny (model PySem.Challenge.rw_aj5033_01.row.prog w) A (.call (.ref 203) ⟨[.bytes b7 t1, .bytes b8 t2, .int salt t3, .int 2 t4], []⟩) R s := by
  obtain ⟨ah, ad, af, ag, au⟩ := A
  dsimp only at hh hdp
  subst hh
  have hd1 : ad + 1 + 1 < recursionLimit := by omega
  have hd4 : ad + 1 + 4 < recursionLimit := by omega
  have hd6 : ad + 1 + 6 < recursionLimit := by omega
  have b4 := (exL_oct k).2
  have b5 := TT.boundC (cN (roundsN spe (saltN salt) (ksE ps (exN k)) (ksO ps (exN k)) (perm ie (lRaw src), perm ie (rRaw src)) 2).1 (roundsN spe (saltN salt) (ksE ps (exN k)) (ksO ps (exN k)) (perm ie (lRaw src), perm ie (rRaw src)) 2).2)
  have N : ∀ q ∈ (allNews g s.heap.objs.size s.heap : List (Addr × Obj)), s.heap.get? q.1 = some q.2 ∧ g.get? q.1 = none := fun q hq => ⟨(allNews_ok g _ s.heap q hq).1, (allNews_ok g _ s.heap q hq).2.2⟩
  have hK : ∀ (h' : Heap) (m' : Str → Option Value), Fr g s.heap.objs.size h' m' → News g s.heap.objs.size h' (allNews g s.heap.objs.size s.heap) → ∀ a o, s.heap.get? a = some o → h'.get? a = some o := fun h' m' F' N' a o e => by
    cases q : g.get? a with
    | some o' =>
      have := hg a o' q
      rw [e] at this; cases this
      exact F'.keep a o q
    | none => exact (N' _ (allNews_mem e (Nat.ne_of_lt (Heap.lt_size e)) q)).1
  generalize allNews g s.heap.objs.size s.heap = news at N hK
  have h7' := h7
  have h8' := h8
  dsimp only [oct7] at h7'
  dsimp only [oct8] at h8'
  revert X
  k_fill
  intro X
  have Xs := Frag.In.keeps X hg
  k_dflt cell_enter
  clear Xs
  k_steps
  · refine TStop.mk ?_
    with_reducible rename Fr _ _ _ _ => F4
    with_reducible rename News _ _ _ _ => N4
    have k4 := hK _ _ F4 N4
    have tabL : ∀ {P line col qual}, TabSt g s.heap P line col qual → P ≠ s.heap.objs.size := fun ⟨_, e, _⟩ => Nat.ne_of_lt (Heap.lt_size e)
    have up4 : ∀ {P line col qual} {h' : Heap}, TabSt g s.heap P line col qual → (∀ a o, s.heap.get? a = some o → h'.get? a = some o) → TabSt g h' P line col qual := fun ⟨ps', e1, e2⟩ kk => ⟨ps', kk _ _ e1, e2.imp id fun ⟨c', r1, ⟨c₂, oc, vs, t, e2, hoc, hd, hv⟩, r3⟩ => ⟨c', r1, ⟨c₂, oc, vs, t, e2, kk _ _ hoc, hd, hv⟩, r3⟩⟩
    refine groT_use (expandB_gro w g k _ _ h7 b1 TT.ex) rfl hd4 X T C2 F4 (tabL hT2) hgP2 (up4 hT2 k4) hG fun v h5 tk5 gens5 hv F5 hk5 ht5 hG5 => ?_
    obtain ⟨b5', t5, rfl, hb5⟩ := hv
    rw [(exL_oct k).1] at hb5
    have hb5' := hb5
    dsimp only [oct8] at hb5'
    have N5 := allNews_ok g s.heap.objs.size h5
    have k5 : ∀ a o, a ≠ 183 → s.heap.get? a = some o → h5.get? a = some o := fun a o ha e => hk5 a o ha (k4 a o e)
    have kk5 : ∀ h' m', Fr g s.heap.objs.size h' m' → News g s.heap.objs.size h' (allNews g s.heap.objs.size h5) → ∀ a o, a ≠ s.heap.objs.size → h5.get? a = some o → h'.get? a = some o := fun h' m' F' N' => allNews_keep F5 F' N' fun _ x => x
    have F5' := TStop.mk F5
    clear F4 N4
    k_steps
    · exfalso
      rename ¬ _ = (8 : Int) => hne
      exact hne rfl
    refine TStop.mk ?_
    with_reducible rename Fr _ _ _ _ => F6
    with_reducible rename News _ _ _ _ => N6
    have k6 := kk5 _ _ F6 N6
    have hL183 := tabL hT2
    have hL206 := tabL hT
    have ht6 := TabSt.frame ht5 F5'.get hL183 k6
    have hT5 : TabSt g h5 206 97 4 desQual := TabSt.other hT hT2 (by decide) k5
    have hT6 := TabSt.frame hT5 F5'.get hL206 k6
    refine groT_use (des_gro TT g (exN k) src salt 2 _ _ _ _ b4 b2 b3 (by decide)) rfl hd6 X T C F6 hL206 hgP hT6 hG5 fun v h7 tk7 gens7 hv F7 hk7 ht7 hG7 => ?_
    obtain ⟨t7, rfl⟩ := hv
    have N7 := allNews_ok g s.heap.objs.size h7
    have kk7 : ∀ h' m', Fr g s.heap.objs.size h' m' → News g s.heap.objs.size h' (allNews g s.heap.objs.size h7) → ∀ a o, a ≠ s.heap.objs.size → h7.get? a = some o → h'.get? a = some o := fun h' m' F' N' => allNews_keep F7 F' N' fun _ x => x
    have F7' := TStop.mk F7
    clear F6 N6
    k_steps
    with_reducible rename Fr _ _ _ _ => F8
    with_reducible rename News _ _ _ _ => N8
    have k8 := kk7 _ _ F8 N8
    have nL : ∀ a o, s.heap.get? a = some o → a ≠ s.heap.objs.size := fun a o e => Nat.ne_of_lt (Heap.lt_size e)
    refine hret _ _ _ _ ⟨_, _, rfl, by assumption⟩ (fun a o h1 h2 e => k8 a o (nL a o e) (hk7 a o h1 (k6 a o (nL a o e) (k5 a o h2 e)))) (TabSt.frame ht7 F7'.get hL206 k8) (TabSt.frame (TabSt.other ht6 hT6 (by decide) hk7) F7'.get hL183 k8) hG7
  all_goals (exfalso; rename ¬ _ = (7 : Int) => hne; exact hne rfl)
end
end Mine

/-! D25b -/
namespace Mine
theorem fresh_D25b : True := by
  w_top off
  exact True.intro
open PySem.Spec PySem.Calls
section
variable {w : World} {rs : List Addr} {ps : List (List (List Nat) × List (List Nat))} {spe ie cf : List (List Nat)}
theorem des_gro3 (TT : Tabs w rs ps spe ie cf) (g : Heap) (key src salt : Nat) (t1 t2 t3 : Tok) (b1 : (key : Int) ≤ 18446744073709551615) (b2 : (src : Int) ≤ 18446744073709551615) (b3 : (salt : Int) ≤ 16777215) :
    GroT w g 6 210 206 97 4 desQual 211 [.int key t1, .int src t2, .int salt t3] (fun v => ∃ t, v = .int (desV ps spe ie cf key src salt 1 : Nat) t) := by
  intro p loose mean mg mb A s R hh hdp X T C hg hsz hgP hT hG hret
  obtain ⟨ps0, hP0, hps⟩ := hT
  have hall : ∀ a o, a ≠ 206 → s.heap.get? a = some o → g.get? a = none → (a, o) ∈ allNews g 206 s.heap := fun a o ha e q => allNews_mem e ha q
  refine des_walk3 w g (allNews g 206 s.heap) ps0 key src salt t1 t2 t3 b1 b2 b3 p loose mean mg mb A s R rs ps spe ie cf TT.pairs TT.tup TT.hspe TT.hie TT.hcf TT.ie0 (saltN_lt salt b3) (TT.bound _ _ _ _).1 (TT.bound _ _ _ _).2 hh hdp X T C hg hsz ?_ (fun q hq => (allNews_ok g 206 s.heap q hq).2.1) hall ?_ ?_
  · intro q hq
    rcases List.mem_cons.mp hq with rfl | hq
    · exact ⟨hP0, hgP⟩
    · exact ⟨(allNews_ok g 206 s.heap q hq).1, (allNews_ok g 206 s.heap q hq).2.2⟩
  · rcases hps with rfl | ⟨c', rfl, ⟨c₂, oc, vs, t, e2, hoc, hd, hv⟩, hgc⟩
    · exact .inl rfl
    · cases e2
      have hcne : c' ≠ 206 := fun q => by rw [q, hP0] at hoc; cases hoc; cases hd; simp [rawInt] at hv
      exact .inr ⟨c', rfl, oc, vs, t, hall _ _ hcne hoc hgc, hd, hv⟩
  · intro t h' tk' k hT'
    exact hret _ h' tk' _ ⟨t, rfl⟩ k hT' (hG.push rfl)
end
end Mine

/-! D27 -/
namespace Mine
local macro_rules | `(tactic| walk_at "idle D27 0") => `(tactic| fail "idle")
theorem fresh_D27 : True := by
  w_top off
  exact True.intro
open PySem.Spec PySem.Calls
/-- range(8), walked by a for: an invariant over the turn's number -/
theorem iter_range8 {prog : Program} {w : World} {A : Around} {E : Value → Shared → Prop} {s : Shared} {env : Env} {h₀ : Heap} {x : Str} {body : List Stmt} {Q : Flow → Shared → Prop} {r : Addr} {t u v : Tok} {m₀ : Str → Option Value} {news : List (Addr × Obj)}
    (J : Nat → (Str → Option Value) → List (Addr × Obj) → Prop)
    (hh : A.handled = none) (hr : IsRange s.heap r 0 8 1 t u v) (F : Fr h₀ env.locals s.heap m₀) (N : News h₀ env.locals s.heap news) (hj : J 0 m₀ news)
    (turn : ∀ i v m₁ news₁ h tk own, i < 8 → (∃ t, v = .int ((i : Nat) : Int) t) → news₁.map (·.1) = news.map (·.1) → OwnOff own (news.map (·.1)) → J i m₁ news₁ → Fr h₀ env.locals h (fun y => if y = x then some v else m₁ y) → News h₀ env.locals h (news₁ ++ own) →
      wpAny (model prog w) A (execs body env) (InvPostN h₀ env.locals (J (i + 1)) own (news.map (·.1)) { s with heap := h, toks := tk } Q) E { s with heap := h, toks := tk })
    (done : ∀ m₁ news₁ h tk, J 8 m₁ news₁ → Fr h₀ env.locals h m₁ → News h₀ env.locals h news₁ → Q .next { s with heap := h, toks := tk }) :
    wpAny (model prog w) A (pyIter (.ref r)) (fun it s₂ => LoopAtV prog w A h₀ env x body Q E it s₂) E s := by
  refine wpAny_pyIter_range hr rfl ?_
  have W := Walks.range (prog := prog) (w := w) hh s.heap.objs.size 0 1 8
  refine loop_invN (s := { s with heap := s.heap.push { cls := .type "range_iterator", data := .fields #[rawInt 0, rawInt (Builtin.Range.rangeSize 0 8 1), rawInt 1] } }) J W ?_ ?_ ?_ ?_ ?_ (F.push _) (fun p hp => ⟨Heap.get?_push_of_some _ (N p hp).1, (N p hp).2⟩) hj (fun i v m₁ n₁ h tk own a b c d e f g => turn i v m₁ n₁ h tk own a ?_ c d e f g) done
  · intro hm
    exact absurd F.ns.lt ((List.mem_singleton.mp hm) ▸ Nat.lt_irrefl _)
  · intro b hb
    rw [List.mem_singleton.mp hb]
    exact next_is_new F
  · intro p hp hI
    exact absurd (Heap.lt_size (N p hp).1) ((List.mem_singleton.mp hI) ▸ Nat.lt_irrefl _)
  · intro q hq hm
    exact absurd (Heap.lt_size (N q hq).1) (by rw [List.mem_singleton.mp hm]; exact Nat.lt_irrefl _)
  · exact Heap.get?_push_size _ rfl
  · obtain ⟨t, rfl⟩ := b
    exact ⟨t, by rw [Int.zero_add, Int.mul_one]⟩
end Mine

/-! D28 -/
namespace Mine
theorem fresh_D28 : True := by
  w_top off
  exact True.intro
open PySem.Spec PySem.Calls
abbrev lawEnv (K : Frag) (L f : Addr) (cdv : Value) : Env := envOfC "law" (scopeOf K 223) L f cdv
def forBody : Option Stmt → List Stmt
  | some (.For _ _ body _ _) => body
  | _ => []
def tuStep (d : Int) (tu i : Nat) : Nat := if (d.fdiv (2 ^ i)).fmod 2 = 1 then tu ^^^ 256 ^ i else tu
def baStep (ba i : Nat) : Nat := ba - ba / 256 ^ i % 2 * 256 ^ i
theorem bare_c (ba k : Nat) : (ba : Int) - ((ba : Int).fdiv (256 ^ k)).fmod 2 * 256 ^ k = ((baStep ba k : Nat) : Int) := by
  have hp : (0 : Int) ≤ 256 ^ k := Int.le_of_lt (Int.pow_pos (by decide))
  have e1 : (ba : Int).fdiv (256 ^ k) = ((ba / 256 ^ k : Nat) : Int) := by
    rw [Int.fdiv_eq_ediv_of_nonneg _ hp]
    push_cast
    rfl
  have e2 : (((ba / 256 ^ k : Nat) : Int)).fmod 2 = ((ba / 256 ^ k % 2 : Nat) : Int) := by
    rw [Int.fmod_eq_emod_of_nonneg _ (by decide)]
    push_cast
    rfl
  have h : ba / 256 ^ k % 2 * 256 ^ k ≤ ba := Nat.le_trans (Nat.mul_le_mul_right _ (Nat.mod_le _ _)) (Nat.div_mul_le_self _ _)
  rw [e1, e2, baStep, Int.ofNat_sub h]
  push_cast
  rfl
theorem tuStep_yes {d : Int} {tu i : Nat} (h : (d.fdiv (2 ^ i)).fmod 2 = 1) : tuStep d tu i = tu ^^^ 256 ^ i := if_pos h
theorem tuStep_no {d : Int} {tu i : Nat} (h : (d.fdiv (2 ^ i)).fmod 2 ≠ 1) : tuStep d tu i = tu := if_neg h
structure TurnPost (b : Heap) (L : Addr) (news : List (Addr × Obj)) (m : Str → Option Value) (tu ba : Nat) (s : Shared) (f : Flow) (s' : Shared) : Prop where
  ex : f = .next ∧ ∃ h' tk' m₂, s' = { s with heap := h', toks := tk' } ∧ Fr b L h' m₂ ∧ News b L h' news ∧ (∃ t, m₂ "turned" = some (.int (tu : Nat) t)) ∧ (∃ t, m₂ "bare" = some (.int (ba : Nat) t)) ∧ ∀ y : Str, y ≠ "turned" → y ≠ "bare" → m₂ y = m y
section
variable {b h' : Heap} {L : Addr} {news : List (Addr × Obj)} {m : Str → Option Value} {tu ba : Nat} {s : Shared} {tk : Nat} {cr cl : Int} {tr tl : Tok}
theorem TurnPost.yes (F : Fr b L h' (fun y => if y = "bare" then some (.int cr tr) else if y = "turned" then some (.int cl tl) else m y)) (N : News b L h' news) (er : cr = (ba : Int)) (el : cl = (tu : Int)) : TurnPost b L news m tu ba s .next { s with heap := h', toks := tk } := by
  subst er el
  exact ⟨rfl, h', tk, _, rfl, F, N, ⟨tl, rfl⟩, ⟨tr, rfl⟩, fun y h1 h2 => by simp only [if_neg h1, if_neg h2]⟩
theorem TurnPost.no (F : Fr b L h' (fun y => if y = "bare" then some (.int cr tr) else m y)) (N : News b L h' news) (er : cr = (ba : Int)) (ht : ∃ t, m "turned" = some (.int (tu : Nat) t)) : TurnPost b L news m tu ba s .next { s with heap := h', toks := tk } := by
  subst er
  exact ⟨rfl, h', tk, _, rfl, F, N, ht, ⟨tr, rfl⟩, fun y h1 h2 => by simp only [if_neg h2]⟩
end
theorem law_turn (w : World) (L f : Addr) (cdv : Value) (A : Around) (E : Value → Shared → Prop) (s : Shared) (b : Heap) (m : Str → Option Value) (news : List (Addr × Obj)) (p : Program) (loose : List Str) (mean : ExcName → Option Value) (mg mb : Str → Option Value) (d z : Int) (i tu ba : Nat) (τ : Nat → Tok)
    (hi : i < 8) (hz : z = (i : Int)) (hh : A.handled = none) (X : (hd.heap_39 w.params).In b) (T : Top p loose mean mg mb b)
    (F : Fr b L s.heap (chain [("k", .int z (τ 0)), ("fourth", .int d (τ 1)), ("turned", .int (tu : Nat) (τ 2)), ("bare", .int (ba : Nat) (τ 3))] m)) (N : News b L s.heap news) :
  wpAny (model PySem.Challenge.rw_aj5033_01.row.prog w) A (execs (forBody (stmtsOf (hd.heap_39 w.params) 223)[5]?) (lawEnv (hd.heap_39 w.params) L f cdv))
    (TurnPost b L news (chain [("k", .int z (τ 0)), ("fourth", .int d (τ 1)), ("turned", .int (tu : Nat) (τ 2)), ("bare", .int (ba : Nat) (τ 3))] m) (tuStep d tu i) (baStep ba i) s) E s := by
  obtain ⟨ah, ad, af, ag, au⟩ := A
  dsimp only at hh
  subst hh
  have h8 : (i = 0 ∧ z = 0) ∨ (i = 1 ∧ z = 1) ∨ (i = 2 ∧ z = 2) ∨ (i = 3 ∧ z = 3) ∨ (i = 4 ∧ z = 4) ∨ (i = 5 ∧ z = 5) ∨ (i = 6 ∧ z = 6) ∨ (i = 7 ∧ z = 7) := by omega
  clear hz
  dsimp only [chain] at F ⊢
  unfold lawEnv
  conv in (forBody _) => whnf
  conv in (scopeOf _ _) => whnf
  revert X
  k_fill
  intro X
  rcases h8 with ⟨rfl, rfl⟩ | ⟨rfl, rfl⟩ | ⟨rfl, rfl⟩ | ⟨rfl, rfl⟩ | ⟨rfl, rfl⟩ | ⟨rfl, rfl⟩ | ⟨rfl, rfl⟩ | ⟨rfl, rfl⟩
  all_goals
    k_steps
    · with_reducible rename Fr _ _ _ _ => F4
      rename Int.fmod _ _ = 1 => hc
      refine TurnPost.yes F4 (by with_reducible assumption) (bare_c ba _) ?_
      exact (xor_nat tu _).trans (congrArg (fun n : Nat => (n : Int)) (tuStep_yes hc).symm)
    · with_reducible rename Fr _ _ _ _ => F4
      rename Int.fmod _ _ ≠ 1 => hc
      refine TurnPost.no F4 (by with_reducible assumption) (bare_c ba _) ⟨τ 2, ?_⟩
      exact congrArg (fun n : Nat => some (Value.int (n : Int) (τ 2))) (tuStep_no hc).symm
end Mine

/-! D29 -/
namespace Mine
theorem fresh_D29 : True := by
  w_top off
  exact True.intro
open PySem.Spec PySem.Calls
def stmtAt (K : Frag) (a i : Nat) : Stmt := (stmtsOf K a)[i]?.getD default
def tuAll (d : Int) (key : Nat) : Nat → Nat
  | 0 => key
  | i + 1 => tuStep d (tuAll d key i) i
def baAll (key : Nat) : Nat → Nat
  | 0 => key
  | i + 1 => baStep (baAll key i) i
local macro_rules | `(tactic| walk_at "pyIter ref") => `(tactic| (k_here; refine' TStop.get ?_))
theorem law_for (w : World) (L f : Addr) (cdv : Value) (A : Around) (Q : Flow → Shared → Prop) (E : Value → Shared → Prop) (s : Shared) (b : Heap) (m : Str → Option Value) (news : List (Addr × Obj)) (p : Program) (loose : List Str) (mean : ExcName → Option Value) (mg mb : Str → Option Value) (d : Int) (key : Nat) (t1 t2 t3 : Tok)
    (hh : A.handled = none) (X : (hd.heap_39 w.params).In b) (T : Top p loose mean mg mb b)
    (F : Fr b L s.heap m) (N : News b L s.heap news) (h4 : m "fourth" = some (.int d t1)) (htu : m "turned" = some (.int (key : Nat) t2)) (hba : m "bare" = some (.int (key : Nat) t3))
    (h : ∀ (h' : Heap) (tk : Nat) (m' : Str → Option Value) (t t' : Tok), Fr b L h' m' → News b L h' news → m' "turned" = some (.int (tuAll d key 8 : Nat) t) → m' "bare" = some (.int (baAll key 8 : Nat) t') → (∀ y : Str, y ≠ "turned" → y ≠ "bare" → y ≠ "k" → m' y = m y) → Q .next { s with heap := h', toks := tk })
    (hE : PassesOwn (model PySem.Challenge.rw_aj5033_01.row.prog w) A (lawEnv (hd.heap_39 w.params) L f cdv) E) :
  wpAny (model PySem.Challenge.rw_aj5033_01.row.prog w) A (exec (stmtAt (hd.heap_39 w.params) 223 5) (lawEnv (hd.heap_39 w.params) L f cdv)) Q E s := by
  obtain ⟨ah, ad, af, ag, au⟩ := A
  dsimp only at hh
  subst hh
  conv in (stmtAt _ _ _) => whnf
  refine For_invV b rfl rfl ?_ (fun _ => rfl) hE
  have main : ∀ (s₁ : Shared) (r : Addr) (t u v : Tok) (nw : List (Addr × Obj)), (∃ h tk, s₁ = { s with heap := h, toks := tk }) → IsRange s₁.heap r 0 8 1 t u v → Fr b L s₁.heap m → News b L s₁.heap (nw ++ news) →
      wpAny (model PySem.Challenge.rw_aj5033_01.row.prog w) { handled := none, depth := ad, frames := af, guards := ag, units := au } (pyIter (.ref r)) (fun it s₂ => LoopAtV PySem.Challenge.rw_aj5033_01.row.prog w { handled := none, depth := ad, frames := af, guards := ag, units := au } b (lawEnv (hd.heap_39 w.params) L f cdv) "k" (forBody (stmtsOf (hd.heap_39 w.params) 223)[5]?) Q E it s₂) E s₁ := by
    rintro s₁ r t u v nw ⟨hh1, tk1, rfl⟩ hr F₁ N₁
    refine iter_range8 (fun i m₁ n₁ => n₁ = nw ++ news ∧ (∃ t, m₁ "turned" = some (.int (tuAll d key i : Nat) t)) ∧ (∃ t, m₁ "bare" = some (.int (baAll key i : Nat) t)) ∧ ∀ y : Str, y ≠ "turned" → y ≠ "bare" → y ≠ "k" → m₁ y = m y) rfl hr F₁ N₁ ⟨rfl, ⟨_, htu⟩, ⟨_, hba⟩, fun _ _ _ _ => rfl⟩ ?_ ?_
    · rintro i v m₁ news₁ h₁ tk own hi ⟨tv, rfl⟩ hadr hsep ⟨rfl, ⟨ta, ha⟩, ⟨tb, hb⟩, hm⟩ F₂ N₂
      have e : chain [("fourth", .int d t1), ("turned", .int (tuAll d key i : Nat) ta), ("bare", .int (baAll key i : Nat) tb)] m₁ = m₁ := by
        refine chain_eq fun q hq => ?_
        rcases List.mem_cons.mp hq with rfl | hq
        · rw [hm "fourth" (by decide) (by decide) (by decide)]; exact h4
        rcases List.mem_cons.mp hq with rfl | hq
        · exact ha
        · rw [List.mem_singleton.mp hq]; exact hb
      have F₃ : Fr b L h₁ (chain [("k", .int ((i : Nat) : Int) tv), ("fourth", .int d t1), ("turned", .int (tuAll d key i : Nat) ta), ("bare", .int (baAll key i : Nat) tb)] m₁) := by
        show Fr b L h₁ (fun y => if y = "k" then _ else chain [("fourth", .int d t1), ("turned", .int (tuAll d key i : Nat) ta), ("bare", .int (baAll key i : Nat) tb)] m₁ y)
        rw [e]
        exact F₂
      refine wpAny_mono (law_turn w L f cdv _ E _ b m₁ _ p loose mean mg mb d _ i _ _ (fun n => match n with | 0 => tv | 1 => t1 | 2 => ta | _ => tb) hi rfl rfl X T F₃ N₂) (fun fl s' hp => ?_) fun _ _ x => x
      obtain ⟨rfl, h₅, tk₅, m₂, rfl, F₅, N₅, c1, c2, c3⟩ := hp.ex
      refine InvEndN.intro F₅ N₅ (nx := nw ++ news) ⟨rfl, c1, c2, fun y h1 h2 h3 => ?_⟩ rfl (fun p hp => List.mem_append_left _ hp) (fun p hp => List.mem_append_right _ hp)
      rw [c3 y h1 h2]
      show (if y = "k" then _ else chain [("fourth", .int d t1), ("turned", .int (tuAll d key i : Nat) ta), ("bare", .int (baAll key i : Nat) tb)] m₁ y) = m y
      rw [e, if_neg h3]
      exact hm y h1 h2 h3
    · rintro m₁ news₁ h₁ tk ⟨rfl, ⟨ta, ha⟩, ⟨tb, hb⟩, hm⟩ F₂ N₂
      exact h h₁ tk m₁ ta tb F₂ (fun q hq => N₂ q (List.mem_append_right _ hq)) ha hb hm
  unfold lawEnv
  conv in (scopeOf _ _) => whnf
  revert X
  k_fill
  intro X
  k_steps
  refine TStop.mk ?_
  exact main _ _ _ _ _ [] ⟨_, _, rfl⟩ (by assumption) (by assumption) (by assumption)
end Mine

/-! D30 -/
namespace Mine
theorem fresh_D30 : True := by
  w_top off
  exact True.intro
open PySem.Spec PySem.Calls
local macro_rules | `(tactic| walk_at "call ref") => `(tactic| (k_here; (with_reducible show wpAny _ _ (call (Value.ref 188) _) _ _ _); refine' TStop.get ?_))
local macro_rules | `(tactic| walk_at "call ref") => `(tactic| (k_here; (with_reducible show wpAny _ _ (call (Value.ref 211) _) _ _ _); refine' TStop.get ?_))
local macro_rules | `(tactic| walk_at "call ref") => `(tactic| (k_here; (with_reducible show wpAny _ _ (call (Value.ref 203) _) _ _ _); refine' TStop.get ?_))
local macro_rules | `(tactic| walk_at "call ref") => `(tactic| (k_here; refine' gro_use (shrink_gro _ _ _ ?b1) ?hh ?hd ?F ?N ?X ?T ?_; (case b1 => assumption); (case hh => exact rfl); (case hd => (first | assumption | omega)); (case F => k_asm); (case N => k_asm); (case X => k_asm); (case T => k_asm); intro t h' tk F' N'))
local macro_rules | `(tactic| walk_at "call ref") => `(tactic| (k_here; refine' groP_use (shrinkB_gro _ _ _ _ ?hb ?b1) ?hh ?hd ?F ?N ?X ?T ?_; (case hb => assumption); (case b1 => assumption); (case hh => exact rfl); (case hd => (first | assumption | omega)); (case F => k_asm); (case N => k_asm); (case X => k_asm); (case T => k_asm); intro v h' tk hP F' N'; obtain ⟨b, t, hv, hb⟩ := hP; subst hv; dsimp only [oct7] at hb))
theorem bInts_inj {x y : Array UInt8} (h : KBw.bInts x = KBw.bInts y) : x.toList = y.toList := by
  unfold KBw.bInts at h
  refine (List.map_inj_right (fun a b e => ?_)).mp h
  exact UInt8.toNat_inj.mp (Int.ofNat.inj e)
theorem law_end (w : World) (L f : Addr) (cdv : Value) (A : Around) (Q : Flow → Shared → Prop) (E : Value → Shared → Prop) (s : Shared) (b : Heap) (m : Str → Option Value) (p : Program) (loose : List Str) (mean : ExcName → Option Value) (mg mb : Str → Option Value) (key block salt tu ba : Nat) (τ : Nat → Tok)
    (hk : (key : Int) ≤ 18446744073709551615) (hbl : (block : Int) ≤ 18446744073709551615) (hsa : (salt : Int) ≤ 16777215) (htu : (tu : Int) ≤ 18446744073709551615) (hba : (ba : Int) ≤ 18446744073709551615)
    (hst : shN tu = shN key) (hex : exL (shN key) = oct8 (ba : Nat)) (hexN : exN (shN key) = ba)
    {rs : List Addr} {ps : List (List (List Nat) × List (List Nat))} {spe ie cf : List (List Nat)} (TT : Tabs w rs ps spe ie cf) (hlaw : desV ps spe ie cf (exN (shN key)) block salt 2 = desV ps spe ie cf tu (desV ps spe ie cf key block salt 1) salt 1) (C : CodeHd b 210 206) (C2 : CodeHd b 187 183) (hgP : b.get? 206 = none) (hgP2 : b.get? 183 = none)
    (hT : TabSt b s.heap 206 97 4 desQual) (hT2 : TabSt b s.heap 183 45 28 exQual) (hG : AllBare s.gens) (h206 : (206 : Nat) ≠ L) (h183 : (183 : Nat) ≠ L)
    (hh : A.handled = none) (hdp : A.depth + 9 < recursionLimit) (X : (hd.heap_39 w.params).In b) (T : Top p loose mean mg mb b)
    (F : Fr b L s.heap (chain [("key", .int (key : Nat) (τ 0)), ("block", .int (block : Nat) (τ 1)), ("salt", .int (salt : Nat) (τ 2)), ("turned", .int (tu : Nat) (τ 3)), ("bare", .int (ba : Nat) (τ 4))] m))
    (hret : ∀ (h' : Heap) (tk' : Nat) (gens' : Array GenState), (∀ a o, b.get? a = some o → h'.get? a = some o) → TabSt b h' 206 97 4 desQual → TabSt b h' 183 45 28 exQual → AllBare gens' → Q (.ret (.bool true)) { s with heap := h', toks := tk', gens := gens' }) :
  wpAny (model PySem.Challenge.rw_aj5033_01.row.prog w) A (execs ((stmtsOf (hd.heap_39 w.params) 223).drop 6) (lawEnv (hd.heap_39 w.params) L f cdv)) Q E s := by
  obtain ⟨ah, ad, af, ag, au⟩ := A
  dsimp only at hh hdp
  subst hh
  have hd2 : ad + 2 < recursionLimit := by omega
  have hd4 : ad + 4 < recursionLimit := by omega
  have hd6 : ad + 6 < recursionLimit := by omega
  have hd8 : ad + 8 < recursionLimit := by omega
  have hsn : ((shN key : Nat) : Int) ≤ 72057594037927935 := by have := shN_lt key; omega
  have N := allNews_ok b L s.heap
  have kk : ∀ h' m', Fr b L h' m' → News b L h' (allNews b L s.heap) → ∀ a o, a ≠ L → s.heap.get? a = some o → h'.get? a = some o := fun h' m' F' N' => allNews_keep F F' N' fun _ x => x
  have F0 := TStop.mk F
  dsimp only [chain] at F
  unfold lawEnv
  conv in (List.drop _ _) => whnf
  conv in (scopeOf _ _) => whnf
  revert X
  k_fill
  intro X
  k_steps
  · exfalso
    rename _ ≠ (7 : Int) => hne
    exact hne rfl
  · exfalso
    omega
  · exfalso
    omega
  refine TStop.mk ?_
  with_reducible rename Fr _ _ _ _ => F1
  with_reducible rename News _ _ _ _ => N1
  have k1 := kk _ _ F1 fun q hq => N1 q (.tail _ hq)
  have hT1 := TabSt.frame hT F0.get h206 k1
  have hT12 := TabSt.frame hT2 F0.get h183 k1
  refine groT_use (expandB_gro w b (shN key) _ _ (by assumption) hsn TT.ex) rfl hd4 X T C2 F1 h183 hgP2 hT12 hG fun v h5 tk5 gens5 hv F5 hk5 ht5 hG5 => ?_
  obtain ⟨b5, t5, rfl, hb5⟩ := hv
  rw [hex] at hb5
  dsimp only [oct8] at hb5
  have hT5 : TabSt b h5 206 97 4 desQual := TabSt.other hT1 hT12 (by decide) hk5
  have N5 := allNews_ok b L h5
  have kk5 : ∀ h' m', Fr b L h' m' → News b L h' (allNews b L h5) → ∀ a o, a ≠ L → h5.get? a = some o → h'.get? a = some o := fun h' m' F' N' => allNews_keep F5 F' N' fun _ x => x
  have F5' := TStop.mk F5
  clear F1 N1
  k_steps
  · exfalso
    rename (_ != _) = true => hne
    rw [bInts_inj (hb5.trans (Eq.symm (by assumption)))] at hne
    simp at hne
  refine TStop.mk ?_
  with_reducible rename Fr _ _ _ _ => F6
  with_reducible rename News _ _ _ _ => N6
  have k6 := kk5 _ _ F6 N6
  have hT6 := TabSt.frame hT5 F5'.get h206 k6
  have hT62 := TabSt.frame ht5 F5'.get h183 k6
  refine groT_use (expandI_gro w b (shN key) _ hsn TT.ex) rfl hd6 X T C2 F6 h183 hgP2 hT62 hG5 fun v h7 tk7 gens7 hv F7 hk7 ht7 hG7 => ?_
  obtain ⟨t7, rfl⟩ := hv
  have hT7 : TabSt b h7 206 97 4 desQual := TabSt.other hT6 hT62 (by decide) hk7
  rw [hexN]
  have N7 := allNews_ok b L h7
  have kk7 : ∀ h' m', Fr b L h' m' → News b L h' (allNews b L h7) → ∀ a o, a ≠ L → h7.get? a = some o → h'.get? a = some o := fun h' m' F' N' => allNews_keep F7 F' N' fun _ x => x
  have F7' := TStop.mk F7
  clear F6 N6
  k_steps
  · exfalso
    omega
  refine TStop.mk ?_
  with_reducible rename Fr _ _ _ _ => F8
  with_reducible rename News _ _ _ _ => N8
  have k8 := kk7 _ _ F8 N8
  have hT8 := TabSt.frame hT7 F7'.get h206 k8
  have hT82 := TabSt.frame ht7 F7'.get h183 k8
  refine groT_use (des_gro3 TT b key block salt _ _ _ hk hbl hsa) rfl hd6 X T C F8 h206 hgP hT8 hG7 fun v h9 tk9 gens9 hv F9 hk9 ht9 hG9 => ?_
  obtain ⟨t9, rfl⟩ := hv
  have hT9 : TabSt b h9 183 45 28 exQual := TabSt.other hT82 hT8 (by decide) hk9
  have hon : ((desV ps spe ie cf key block salt 1 : Nat) : Int) ≤ 18446744073709551615 := TT.boundC _
  generalize honce : desV ps spe ie cf key block salt 1 = once at F9 hon ⊢
  have N9 := allNews_ok b L h9
  have kk9 : ∀ h' m', Fr b L h' m' → News b L h' (allNews b L h9) → ∀ a o, a ≠ L → h9.get? a = some o → h'.get? a = some o := fun h' m' F' N' => allNews_keep F9 F' N' fun _ x => x
  have F9' := TStop.mk F9
  clear F8 N8
  k_steps
  refine TStop.mk ?_
  with_reducible rename Fr _ _ _ _ => Fa
  with_reducible rename News _ _ _ _ => Na
  have ka := kk9 _ _ Fa Na
  have hTa := TabSt.frame ht9 F9'.get h206 ka
  have hTa2 := TabSt.frame hT9 F9'.get h183 ka
  refine groT_use (des_gro TT b tu once salt 1 _ _ _ _ htu hon hsa (by decide)) rfl hd6 X T C Fa h206 hgP hTa hG9 fun v hb tkb gensb hv Fb hkb htb hGb => ?_
  obtain ⟨tb, rfl⟩ := hv
  have hTb : TabSt b hb 183 45 28 exQual := TabSt.other hTa2 hTa (by decide) hkb
  have htw : ((desV ps spe ie cf tu once salt 1 : Nat) : Int) ≤ 18446744073709551615 := TT.boundC _
  generalize htwice : desV ps spe ie cf tu once salt 1 = twice at Fb htw ⊢
  have Nb := allNews_ok b L hb
  have kkb : ∀ h' m', Fr b L h' m' → News b L h' (allNews b L hb) → ∀ a o, a ≠ L → hb.get? a = some o → h'.get? a = some o := fun h' m' F' N' => allNews_keep Fb F' N' fun _ x => x
  have Fb' := TStop.mk Fb
  clear Fa Na
  k_steps
  refine TStop.mk ?_
  with_reducible rename Fr _ _ _ _ => Fc
  with_reducible rename News _ _ _ _ => Nc
  have kc := kkb _ _ Fc Nc
  have hTc := TabSt.frame htb Fb'.get h206 kc
  have hTc2 := TabSt.frame hTb Fb'.get h183 kc
  refine wpAny_call (block_gro TT b (shN key) block salt _ _ _ _ _ _ (by assumption) (by assumption) hsn hbl hsa p loose mean mg mb _ _ _ rfl hd8 X T C C2 Fc.keep (Nat.le_trans Fc.above (Nat.le_of_lt Fc.ns.lt)) hgP hgP2 hTc hTc2 hGb fun v hd' tkd gensd hv hkd htd htd2 hGd => ?_)
  obtain ⟨bd, td, rfl, hbd⟩ := hv
  rw [hlaw, honce, htwice] at hbd
  dsimp only [oct8] at hbd
  have Fd := Fr.mk (h := hd') (Fc.ns.at' fun o e => hkd _ _ h206.symm h183.symm e) (fun a o e => hkd _ _ (fun q => by rw [q, hgP] at e; cases e) (fun q => by rw [q, hgP2] at e; cases e) (Fc.keep a o e)) Fc.above
  have Nd := allNews_ok b L hd'
  have kkd : ∀ h' m', Fr b L h' m' → News b L h' (allNews b L hd') → ∀ a o, a ≠ L → hd'.get? a = some o → h'.get? a = some o := fun h' m' F' N' => allNews_keep Fd F' N' fun _ x => x
  have Fd' := TStop.mk Fd
  clear Fc Nc
  k_steps
  rw [bInts_inj (hbd.trans (Eq.symm (by assumption))), beq_self_eq_true]
  exact hret _ _ _ Fd.keep htd htd2 hGd
end Mine

/-! P1 -/
namespace Mine
theorem fresh_P1 : True := by
  w_top off
  exact True.intro
/-! the plain law, first part: numbers as words of bits, XOR-linear functions -/
def Lin (f : Nat → Nat) : Prop := ∀ a b, f (a ^^^ b) = f a ^^^ f b
theorem Lin.zero {f : Nat → Nat} (h : Lin f) : f 0 = 0 := by
  have := h 0 0
  simpa using this
theorem or_eq_xor {x y : Nat} (h : x &&& y = 0) : x ||| y = x ^^^ y := by rw [or_eq, h, Nat.add_zero]
def permX : List (List Nat) → Nat → Nat
  | [], _ => 0
  | row :: rows, c => row.getD (c &&& 15) 0 ^^^ permX rows (c >>> 4)
def mask (row : List Nat) : Nat := row.foldr (· ||| ·) 0
def maskAll (rows : List (List Nat)) : Nat := rows.foldr (fun row m => mask row ||| m) 0
def rowLin (row : List Nat) : Bool := (List.range 16).all fun i => (List.range 16).all fun j => Nat.beq (row.getD (i ^^^ j) 0) (row.getD i 0 ^^^ row.getD j 0)
def disj : List (List Nat) → Bool
  | [] => true
  | row :: rows => Nat.beq (mask row &&& maskAll rows) 0 && disj rows
theorem mask_bit : ∀ (row : List Nat) (i k : Nat), (row.getD i 0).testBit k = true → (mask row).testBit k = true
  | [], i, k, h => by simp at h
  | x :: row, i, k, h => by
    show (x ||| mask row).testBit k = true
    rw [Nat.testBit_or, Bool.or_eq_true]
    cases i with
    | zero => exact .inl h
    | succ i => exact .inr (mask_bit row i k (by simpa using h))
theorem and_zero {x y : Nat} : x &&& y = 0 ↔ ∀ k, x.testBit k = true → y.testBit k = true → False := by
  constructor
  · intro h k h1 h2
    have := congrArg (fun n => n.testBit k) h
    simp [Nat.testBit_and, h1, h2] at this
  · intro h
    refine Nat.eq_of_testBit_eq fun k => ?_
    rw [Nat.testBit_and, Nat.zero_testBit]
    cases h1 : x.testBit k <;> cases h2 : y.testBit k <;> first | rfl | exact (h k h1 h2).elim
theorem foldl_perm : ∀ (rows : List (List Nat)) (out c : Nat), out &&& maskAll rows = 0 → disj rows = true → (rows.foldl permStep (out, c)).1 = out ^^^ permX rows c
  | [], out, c, _, _ => by show out = out ^^^ 0; rw [Nat.xor_zero]
  | row :: rows, out, c, h, hd => by
    simp only [disj, Bool.and_eq_true] at hd
    have h1 := and_zero.mp h
    have h2 := and_zero.mp (Nat.eq_of_beq_eq_true hd.1)
    have hm : ∀ k, (maskAll (row :: rows)).testBit k = ((mask row).testBit k || (maskAll rows).testBit k) := fun k => Nat.testBit_or ..
    have e1 : out &&& row.getD (c &&& 15) 0 = 0 := and_zero.mpr fun k a b => h1 k a (by rw [hm, mask_bit row _ k b]; rfl)
    show (rows.foldl permStep (out ||| row.getD (c &&& 15) 0, c >>> 4)).1 = out ^^^ (row.getD (c &&& 15) 0 ^^^ permX rows (c >>> 4))
    rw [or_eq_xor e1, foldl_perm rows _ _ (and_zero.mpr fun k a b => ?_) hd.2, Nat.xor_assoc]
    rw [← or_eq_xor e1, Nat.testBit_or, Bool.or_eq_true] at a
    rcases a with a | a
    · exact h1 k a (by rw [hm, b, Bool.or_true])
    · exact h2 k (mask_bit row _ k a) b
theorem perm_eq {rows : List (List Nat)} (h : disj rows = true) (c : Nat) : perm rows c = permX rows c := by
  unfold perm permFold
  rw [foldl_perm rows 0 c (Nat.zero_and _) h, Nat.zero_xor]
theorem rowLin_at {row : List Nat} (h : rowLin row = true) {i j : Nat} (hi : i < 16) (hj : j < 16) : row.getD (i ^^^ j) 0 = row.getD i 0 ^^^ row.getD j 0 := by
  have h1 := List.all_eq_true.mp h i (List.mem_range.mpr hi)
  exact Nat.eq_of_beq_eq_true (List.all_eq_true.mp h1 j (List.mem_range.mpr hj))
theorem permX_lin : ∀ {rows : List (List Nat)}, rows.all rowLin = true → Lin (permX rows)
  | [], _, a, b => by show (0 : Nat) = 0 ^^^ 0; rfl
  | row :: rows, h, a, b => by
    rw [List.all_cons, Bool.and_eq_true] at h
    show row.getD ((a ^^^ b) &&& 15) 0 ^^^ permX rows ((a ^^^ b) >>> 4) = (row.getD (a &&& 15) 0 ^^^ permX rows (a >>> 4)) ^^^ (row.getD (b &&& 15) 0 ^^^ permX rows (b >>> 4))
    rw [Nat.and_xor_distrib_right, Nat.shiftRight_xor_distrib, rowLin_at h.1 (idx_hi a) (idx_hi b), permX_lin h.2]
    ac_rfl
theorem perm_lin {rows : List (List Nat)} (h : disj rows = true) (hl : rows.all rowLin = true) : Lin (perm rows) := fun a b => by
  rw [perm_eq h, perm_eq h, perm_eq h, permX_lin hl]
/-- what holds of 0 and of XORs and of the table's entries holds of its words -/
theorem permX_in {P : Nat → Prop} (h0 : P 0) (hx : ∀ a b, P a → P b → P (a ^^^ b)) : ∀ {rows : List (List Nat)} (c : Nat), (∀ row ∈ rows, ∀ e ∈ row, P e) → P (permX rows c)
  | [], c, _ => h0
  | row :: rows, c, h => by
    refine hx _ _ ?_ (permX_in h0 hx _ fun r hr => h r (.tail _ hr))
    rw [List.getD_eq_getElem?_getD]
    cases e : row[c &&& 15]? with
    | none => exact h0
    | some v => exact h row (.head _) v (List.mem_of_getElem? e)
theorem getD_in {P : Nat → Prop} (h0 : P 0) {row : List Nat} (h : ∀ e ∈ row, P e) (i : Nat) : P (row.getD i 0) := by
  rw [List.getD_eq_getElem?_getD]
  cases e : row[i]? with
  | none => exact h0
  | some v => exact h v (List.mem_of_getElem? e)

theorem masks0 {a b m n : Nat} (h : m &&& n = 0) : (a &&& m) &&& (b &&& n) = 0 := by
  have e : (a &&& m) &&& (b &&& n) = (a &&& b) &&& (m &&& n) := by ac_rfl
  rw [e, h, Nat.and_zero]
theorem or_and0 {x y z : Nat} (h1 : x &&& z = 0) (h2 : y &&& z = 0) : (x ||| y) &&& z = 0 := by rw [Nat.and_or_distrib_right, h1, h2]; rfl
theorem or3 {a b c d m n p q : Nat} (h1 : m &&& n = 0) (h2 : m &&& p = 0) (h3 : n &&& p = 0) (h4 : m &&& q = 0) (h5 : n &&& q = 0) (h6 : p &&& q = 0) :
    (a &&& m) ||| (b &&& n) ||| (c &&& p) ||| (d &&& q) = (a &&& m) ^^^ (b &&& n) ^^^ (c &&& p) ^^^ (d &&& q) := by
  rw [or_eq_xor (or_and0 (or_and0 (masks0 h4) (masks0 h5)) (masks0 h6)), or_eq_xor (or_and0 (masks0 h2) (masks0 h3)), or_eq_xor (masks0 h1)]
theorem lRaw_eq (x : Nat) : lRaw x = (x >>> 31 &&& 2863311530) ^^^ (x &&& 1431655765) := or_eq_xor (masks0 (by decide))
theorem rRaw_eq (x : Nat) : rRaw x = (x >>> 32 &&& 2863311530) ^^^ (x >>> 1 &&& 1431655765) := or_eq_xor (masks0 (by decide))
theorem cN_eq (l r : Nat) : cN l r = (l >>> 3 &&& 1085102592318504960) ^^^ (l <<< 33 &&& 17361641477096079360) ^^^ (r >>> 35 &&& 252645135) ^^^ (r <<< 1 &&& 4042322160) :=
  or3 (by decide) (by decide) (by decide) (by decide) (by decide) (by decide)
theorem lRaw_lin : Lin lRaw := fun a b => by
  rw [lRaw_eq, lRaw_eq, lRaw_eq, Nat.shiftRight_xor_distrib, Nat.and_xor_distrib_right, Nat.and_xor_distrib_right]; ac_rfl
theorem rRaw_lin : Lin rRaw := fun a b => by
  rw [rRaw_eq, rRaw_eq, rRaw_eq, Nat.shiftRight_xor_distrib, Nat.shiftRight_xor_distrib, Nat.and_xor_distrib_right, Nat.and_xor_distrib_right]; ac_rfl
theorem cN_lin (a b c d : Nat) : cN (a ^^^ b) (c ^^^ d) = cN a c ^^^ cN b d := by
  rw [cN_eq, cN_eq, cN_eq, Nat.shiftRight_xor_distrib, Nat.shiftRight_xor_distrib, Nat.shiftLeft_xor_distrib, Nat.shiftLeft_xor_distrib, Nat.and_xor_distrib_right, Nat.and_xor_distrib_right, Nat.and_xor_distrib_right, Nat.and_xor_distrib_right]; ac_rfl

section
variable (ie cf : List (List Nat))
def tripL (l r : Nat) : Nat := perm ie (lRaw (perm cf (cN l r)))
def tripR (l r : Nat) : Nat := perm ie (rRaw (perm cf (cN l r)))
/-- a half that the last step and the first step bring back -/
def InS (x : Nat) : Prop := tripL ie cf x 0 = x ∧ tripL ie cf 0 x = 0 ∧ tripR ie cf x 0 = 0 ∧ tripR ie cf 0 x = x
def inS (x : Nat) : Bool := Nat.beq (tripL ie cf x 0) x && Nat.beq (tripL ie cf 0 x) 0 && Nat.beq (tripR ie cf x 0) 0 && Nat.beq (tripR ie cf 0 x) x
end
section
variable {ie cf : List (List Nat)}
theorem InS.of {x : Nat} (h : inS ie cf x = true) : InS ie cf x := by
  simp only [inS, Bool.and_eq_true] at h
  exact ⟨Nat.eq_of_beq_eq_true h.1.1.1, Nat.eq_of_beq_eq_true h.1.1.2, Nat.eq_of_beq_eq_true h.1.2, Nat.eq_of_beq_eq_true h.2⟩
theorem tripL_lin (hi : Lin (perm ie)) (hc : Lin (perm cf)) (a b c d : Nat) : tripL ie cf (a ^^^ b) (c ^^^ d) = tripL ie cf a c ^^^ tripL ie cf b d := by
  unfold tripL
  rw [cN_lin, hc, lRaw_lin, hi]
theorem tripR_lin (hi : Lin (perm ie)) (hc : Lin (perm cf)) (a b c d : Nat) : tripR ie cf (a ^^^ b) (c ^^^ d) = tripR ie cf a c ^^^ tripR ie cf b d := by
  unfold tripR
  rw [cN_lin, hc, rRaw_lin, hi]
theorem InS.zero (hi : Lin (perm ie)) (hc : Lin (perm cf)) : InS ie cf 0 := by
  have e1 : tripL ie cf 0 0 = 0 := by
    have := tripL_lin hi hc 0 0 0 0
    simpa using this
  have e2 : tripR ie cf 0 0 = 0 := by
    have := tripR_lin hi hc 0 0 0 0
    simpa using this
  exact ⟨e1, e1, e2, e2⟩
theorem InS.xor (hi : Lin (perm ie)) (hc : Lin (perm cf)) {a b : Nat} (ha : InS ie cf a) (hb : InS ie cf b) : InS ie cf (a ^^^ b) := by
  obtain ⟨a1, a2, a3, a4⟩ := ha
  obtain ⟨b1, b2, b3, b4⟩ := hb
  refine ⟨?_, ?_, ?_, ?_⟩
  · have := tripL_lin hi hc a b 0 0
    rw [Nat.xor_zero] at this
    rw [this, a1, b1]
  · have := tripL_lin hi hc 0 0 a b
    rw [Nat.xor_zero] at this
    rw [this, a2, b2, Nat.xor_zero]
  · have := tripR_lin hi hc a b 0 0
    rw [Nat.xor_zero] at this
    rw [this, a3, b3, Nat.xor_zero]
  · have := tripR_lin hi hc 0 0 a b
    rw [Nat.xor_zero] at this
    rw [this, a4, b4]
theorem InS.back (hi : Lin (perm ie)) (hc : Lin (perm cf)) {l r : Nat} (hl : InS ie cf l) (hr : InS ie cf r) : tripL ie cf l r = l ∧ tripR ie cf l r = r := by
  constructor
  · have := tripL_lin hi hc l 0 0 r
    rw [Nat.xor_zero, Nat.zero_xor] at this
    rw [this, hl.1, hr.2.1, Nat.xor_zero]
  · have := tripR_lin hi hc l 0 0 r
    rw [Nat.xor_zero, Nat.zero_xor] at this
    rw [this, hl.2.2.1, hr.2.2.2, Nat.zero_xor]

/-- all that is asked of the numbers in the tables for the round trip -/
structure Trip (ie cf spe : List (List Nat)) : Prop where
  ieD : disj ie = true
  ieL : ie.all rowLin = true
  cfD : disj cf = true
  cfL : cf.all rowLin = true
  ieS : ∀ row ∈ ie, ∀ e ∈ row, InS ie cf e
  spS : ∀ row ∈ spe, ∀ e ∈ row, InS ie cf e
  ieB : ∀ row ∈ ie, ∀ e ∈ row, e < 18446744073709551616
  cfB : ∀ row ∈ cf, ∀ e ∈ row, e < 18446744073709551616
variable {spe : List (List Nat)}
theorem Trip.li (X : Trip ie cf spe) : Lin (perm ie) := perm_lin X.ieD X.ieL
theorem Trip.lc (X : Trip ie cf spe) : Lin (perm cf) := perm_lin X.cfD X.cfL
theorem Trip.ieIn (X : Trip ie cf spe) (x : Nat) : InS ie cf (perm ie x) := by
  rw [perm_eq X.ieD]
  exact permX_in (InS.zero X.li X.lc) (fun _ _ => InS.xor X.li X.lc) x X.ieS
theorem xor64 {a b : Nat} (ha : a < 18446744073709551616) (hb : b < 18446744073709551616) : a ^^^ b < 18446744073709551616 := Nat.xor_lt_two_pow (n := 64) ha hb
theorem Trip.ieLt (X : Trip ie cf spe) (x : Nat) : perm ie x < 18446744073709551616 := by
  rw [perm_eq X.ieD]
  exact permX_in (P := (· < 18446744073709551616)) (by decide) (fun _ _ => xor64) x X.ieB
theorem Trip.cfLt (X : Trip ie cf spe) (x : Nat) : perm cf x < 18446744073709551616 := by
  rw [perm_eq X.cfD]
  exact permX_in (P := (· < 18446744073709551616)) (by decide) (fun _ _ => xor64) x X.cfB
theorem Trip.lt (X : Trip ie cf spe) {x : Nat} (h : InS ie cf x) : x < 18446744073709551616 := h.1 ▸ X.ieLt _
theorem Trip.spIn (X : Trip ie cf spe) (b i sh : Nat) : InS ie cf (sN spe b i sh) := by
  unfold sN
  refine getD_in (InS.zero X.li X.lc) ?_ _
  rw [List.getD_eq_getElem?_getD]
  cases e : spe[i]? with
  | none => intro e he; cases he
  | some row => exact X.spS row (List.mem_of_getElem? e)
theorem Trip.half (X : Trip ie cf spe) (sl ks r : Nat) : InS ie cf (halfN spe sl ks r) := by
  have x := fun {a b : Nat} => InS.xor (a := a) (b := b) X.li X.lc
  unfold halfN fN
  exact x (x (x (x (x (x (x (X.spIn _ _ _) (X.spIn _ _ _)) (X.spIn _ _ _)) (X.spIn _ _ _)) (X.spIn _ _ _)) (X.spIn _ _ _)) (X.spIn _ _ _)) (X.spIn _ _ _)
def In2 (ie cf : List (List Nat)) (p : Nat × Nat) : Prop := InS ie cf p.1 ∧ InS ie cf p.2
theorem Trip.turn (X : Trip ie cf spe) (sl : Nat) (xs ys : Nat → Nat) (i : Nat) {p : Nat × Nat} (h : In2 ie cf p) : In2 ie cf (turnN spe sl xs ys i p) :=
  ⟨InS.xor X.li X.lc h.1 (X.half _ _ _), InS.xor X.li X.lc h.2 (X.half _ _ _)⟩
theorem Trip.pass (X : Trip ie cf spe) (sl : Nat) (xs ys : Nat → Nat) {p : Nat × Nat} (h : In2 ie cf p) : ∀ i, In2 ie cf (passN spe sl xs ys p i)
  | 0 => h
  | i + 1 => X.turn sl xs ys i (X.pass sl xs ys h i)
theorem Trip.rounds (X : Trip ie cf spe) (sl : Nat) (xs ys : Nat → Nat) {p : Nat × Nat} (h : In2 ie cf p) : ∀ n, In2 ie cf (roundsN spe sl xs ys p n)
  | 0 => h
  | n + 1 => ⟨(X.pass sl xs ys (X.rounds sl xs ys h n) 8).2, (X.pass sl xs ys (X.rounds sl xs ys h n) 8).1⟩
/-- once and once more by the same schedule is twice -/
theorem Trip.twice (X : Trip ie cf spe) (xs ys : Nat → Nat) (src salt : Nat) : desN spe ie cf xs ys (desN spe ie cf xs ys src salt 1) salt 1 = desN spe ie cf xs ys src salt 2 := by
  have h1 := X.rounds (saltN salt) xs ys (p := (perm ie (lRaw src), perm ie (rRaw src))) ⟨X.ieIn _, X.ieIn _⟩ 1
  obtain ⟨e1, e2⟩ := InS.back X.li X.lc h1.1 h1.2
  have key : (perm ie (lRaw (desN spe ie cf xs ys src salt 1)), perm ie (rRaw (desN spe ie cf xs ys src salt 1))) = roundsN spe (saltN salt) xs ys (perm ie (lRaw src), perm ie (rRaw src)) 1 := Prod.ext e1 e2
  have e : ∀ src', desN spe ie cf xs ys src' salt 1 = perm cf (cN (roundsN spe (saltN salt) xs ys (perm ie (lRaw src'), perm ie (rRaw src')) 1).1 (roundsN spe (saltN salt) xs ys (perm ie (lRaw src'), perm ie (rRaw src')) 1).2) := fun _ => rfl
  rw [e (desN spe ie cf xs ys src salt 1), key]
  rfl
theorem Trip.bound (X : Trip ie cf spe) (sl : Nat) (xs ys : Nat → Nat) (src n : Nat) : ((roundsN spe sl xs ys (perm ie (lRaw src), perm ie (rRaw src)) n).1 : Int) ≤ 18446744073709551615 ∧ ((roundsN spe sl xs ys (perm ie (lRaw src), perm ie (rRaw src)) n).2 : Int) ≤ 18446744073709551615 := by
  have h := X.rounds sl xs ys (p := (perm ie (lRaw src), perm ie (rRaw src))) ⟨X.ieIn _, X.ieIn _⟩ n
  have h1 := X.lt h.1
  have h2 := X.lt h.2
  omega
end
end Mine

/-! P2 -/
namespace Mine
local macro_rules | `(tactic| walk_at "idle P2 0") => `(tactic| fail "idle")
theorem fresh_P2 : True := by
  w_top off
  exact True.intro
/-! the plain law, second part: the idle bits of the key -/
theorem ks_same {ps : List (List (List Nat) × List (List Nat))} {k k' : Nat} (h : perm (ps.getD 0 ([], [])).1 k = perm (ps.getD 0 ([], [])).1 k') : ksE ps k = ksE ps k' ∧ ksO ps k = ksO ps k' := by
  have main : ∀ j, evenAt ps k j = evenAt ps k' j ∧ oddAt ps k (j + 1) = oddAt ps k' (j + 1) := by
    intro j
    have step : ∀ j, evenAt ps k j = evenAt ps k' j → oddAt ps k (j + 1) = oddAt ps k' (j + 1) := fun j e => congrArg (perm (ps.getD j ([], [])).2) e
    induction j with
    | zero => exact ⟨h, step 0 h⟩
    | succ j ih =>
      have e : evenAt ps k (j + 1) = evenAt ps k' (j + 1) := congrArg (perm (ps.getD (j + 1) ([], [])).1) ih.2
      exact ⟨e, step _ e⟩
  exact ⟨funext fun j => congrArg (· &&& ksMask) (main j).1, funext fun j => congrArg (· &&& ksMask) (main j).2⟩

theorem add_xor (a b : Nat) : a + b = (a ^^^ b) + 2 * (a &&& b) := by
  have e1 := or_eq a b
  have e2 : a + b = (a ||| b) + (a &&& b) := by
    induction a using Nat.strongRecOn generalizing b with
    | _ a ih =>
      by_cases h : a = 0
      · subst h; simp
      · have h2 : a / 2 < a := Nat.div_lt_self (Nat.pos_of_ne_zero h) (by decide)
        have e := ih (a / 2) h2 (b / 2) (or_eq _ _)
        have e1 : (a ||| b) = 2 * ((a / 2) ||| (b / 2)) + (a ||| b) % 2 := by
          rw [← Nat.or_div_two]; omega
        have e3 : (a &&& b) = 2 * ((a / 2) &&& (b / 2)) + (a &&& b) % 2 := by
          rw [← Nat.and_div_two]; omega
        have e4 : a % 2 + b % 2 = (a ||| b) % 2 + (a &&& b) % 2 := by
          have o := @Nat.or_mod_two_eq_one a b
          have n := @Nat.and_mod_two_eq_one a b
          omega
        omega
  omega
theorem sub_eq_xor {x m : Nat} (h : x / 2 ^ m % 2 = 1) : x - 2 ^ m = x ^^^ 2 ^ m := by
  have hb : x.testBit m = true := by rw [Nat.testBit_eq_decide_div_mod_eq, h]; rfl
  have h0 : (x ^^^ 2 ^ m) &&& 2 ^ m = 0 := and_zero.mpr fun k a b => by
    rw [Nat.testBit_two_pow] at b
    have e : m = k := of_decide_eq_true b
    subst e
    rw [Nat.testBit_xor, hb, Nat.testBit_two_pow_self] at a
    cases a
  have h1 := add_xor (x ^^^ 2 ^ m) (2 ^ m)
  rw [h0, Nat.xor_assoc, Nat.xor_self, Nat.xor_zero] at h1
  omega
theorem pow256 (i : Nat) : (256 : Nat) ^ i = 2 ^ (8 * i) := by
  rw [show (256 : Nat) = 2 ^ 8 from rfl, ← Nat.pow_mul]
theorem baStep_or (x i : Nat) : baStep x i = x ∨ baStep x i = x ^^^ 256 ^ i := by
  unfold baStep
  have h2 : x / 256 ^ i % 2 = 0 ∨ x / 256 ^ i % 2 = 1 := by omega
  rcases h2 with h | h
  · left; rw [h, Nat.zero_mul, Nat.sub_zero]
  · right
    rw [h, Nat.one_mul]
    rw [pow256] at h ⊢
    exact sub_eq_xor h
theorem tuStep_or (d : Int) (x i : Nat) : tuStep d x i = x ∨ tuStep d x i = x ^^^ 256 ^ i := by
  unfold tuStep
  split
  · exact .inr rfl
  · exact .inl rfl
section
variable {α : Type} {f : Nat → α}
theorem tuAll_same (hf : ∀ x i, i < 8 → f (x ^^^ 256 ^ i) = f x) (d : Int) (key : Nat) : ∀ n, n ≤ 8 → f (tuAll d key n) = f key
  | 0, _ => rfl
  | n + 1, h => by
    have ih := tuAll_same hf d key n (by omega)
    show f (tuStep d (tuAll d key n) n) = f key
    rcases tuStep_or d (tuAll d key n) n with e | e <;> rw [e]
    · exact ih
    · rw [hf _ n (by omega)]; exact ih
theorem baAll_same (hf : ∀ x i, i < 8 → f (x ^^^ 256 ^ i) = f x) (key : Nat) : ∀ n, n ≤ 8 → f (baAll key n) = f key
  | 0, _ => rfl
  | n + 1, h => by
    have ih := baAll_same hf key n (by omega)
    show f (baStep (baAll key n) n) = f key
    rcases baStep_or (baAll key n) n with e | e <;> rw [e]
    · exact ih
    · rw [hf _ n (by omega)]; exact ih
end
theorem eight {P : Nat → Prop} (h0 : P 0) (h1 : P 1) (h2 : P 2) (h3 : P 3) (h4 : P 4) (h5 : P 5) (h6 : P 6) (h7 : P 7) : ∀ i, i < 8 → P i := by
  intro i hi
  have h8 : i = 0 ∨ i = 1 ∨ i = 2 ∨ i = 3 ∨ i = 4 ∨ i = 5 ∨ i = 6 ∨ i = 7 := by omega
  rcases h8 with rfl | rfl | rfl | rfl | rfl | rfl | rfl | rfl <;> assumption
theorem tuAll_lt (d : Int) (key : Nat) (hk : key < 18446744073709551616) : ∀ n, n ≤ 8 → tuAll d key n < 18446744073709551616
  | 0, _ => hk
  | n + 1, h => by
    have ih := tuAll_lt d key hk n (by omega)
    have hp : (256 : Nat) ^ n < 18446744073709551616 := Nat.lt_of_le_of_lt (Nat.pow_le_pow_right (by decide) (show n ≤ 7 by omega)) (by decide +kernel)
    show tuStep d (tuAll d key n) n < _
    rcases tuStep_or d (tuAll d key n) n with e | e <;> rw [e]
    · exact ih
    · exact xor64 ih hp
theorem baAll_le (key : Nat) : ∀ n, baAll key n ≤ key
  | 0 => Nat.le_refl _
  | n + 1 => Nat.le_trans (Nat.sub_le _ _) (baAll_le key n)

theorem fl (x p s : Nat) (h : p >>> s &&& 127 = 0) : (x ^^^ p) >>> s &&& 127 = x >>> s &&& 127 := by
  rw [Nat.shiftRight_xor_distrib, Nat.and_xor_distrib_right, h, Nat.xor_zero]
theorem shN_eq (k : Nat) : shN k = 0 ||| (k >>> 1 &&& 127) <<< 0 ||| (k >>> 9 &&& 127) <<< 7 ||| (k >>> 17 &&& 127) <<< 14 ||| (k >>> 25 &&& 127) <<< 21
    ||| (k >>> 33 &&& 127) <<< 28 ||| (k >>> 41 &&& 127) <<< 35 ||| (k >>> 49 &&& 127) <<< 42 ||| (k >>> 57 &&& 127) <<< 49 := by
  unfold shN
  simp only [← Nat.shiftRight_add]
theorem shN_flip (x : Nat) : ∀ i, i < 8 → shN (x ^^^ 256 ^ i) = shN x := by
  have g : ∀ p : Nat, p >>> 1 &&& 127 = 0 → p >>> 9 &&& 127 = 0 → p >>> 17 &&& 127 = 0 → p >>> 25 &&& 127 = 0 → p >>> 33 &&& 127 = 0 → p >>> 41 &&& 127 = 0 → p >>> 49 &&& 127 = 0 → p >>> 57 &&& 127 = 0 → shN (x ^^^ p) = shN x := by
    intro p h1 h2 h3 h4 h5 h6 h7 h8
    rw [shN_eq, shN_eq, fl x p _ h1, fl x p _ h2, fl x p _ h3, fl x p _ h4, fl x p _ h5, fl x p _ h6, fl x p _ h7, fl x p _ h8]
  refine eight ?_ ?_ ?_ ?_ ?_ ?_ ?_ ?_ <;> refine g _ ?_ ?_ ?_ ?_ ?_ ?_ ?_ ?_ <;> decide +kernel

theorem orAdd {x y s : Nat} (hx : x < 2 ^ s) : x ||| y <<< s = x + y * 2 ^ s := by
  rw [Nat.or_comm, ← Nat.shiftLeft_add_eq_or_of_lt hx, Nat.shiftLeft_eq, Nat.add_comm]
theorem and127_mod (x : Nat) : x &&& 127 = x % 128 := Nat.and_two_pow_sub_one_eq_mod x 7
theorem shN_sum (k : Nat) : shN k = k / 2 % 128 + k / 512 % 128 * 128 + k / 131072 % 128 * 16384 + k / 33554432 % 128 * 2097152 + k / 8589934592 % 128 * 268435456
    + k / 2199023255552 % 128 * 34359738368 + k / 562949953421312 % 128 * 4398046511104 + k / 144115188075855872 % 128 * 562949953421312 := by
  rw [shN_eq]
  simp only [and127_mod, Nat.shiftRight_eq_div_pow, Nat.reducePow]
  have l : ∀ x : Nat, x % 128 < 128 := fun x => Nat.mod_lt _ (by decide)
  have b0 := l (k / 2); have b1 := l (k / 512); have b2 := l (k / 131072); have b3 := l (k / 33554432); have b4 := l (k / 8589934592); have b5 := l (k / 2199023255552); have b6 := l (k / 562949953421312); have b7 := l (k / 144115188075855872)
  generalize k / 2 % 128 = a0 at *
  generalize k / 512 % 128 = a1 at *
  generalize k / 131072 % 128 = a2 at *
  generalize k / 33554432 % 128 = a3 at *
  generalize k / 8589934592 % 128 = a4 at *
  generalize k / 2199023255552 % 128 = a5 at *
  generalize k / 562949953421312 % 128 = a6 at *
  generalize k / 144115188075855872 % 128 = a7 at *
  rw [Nat.zero_or, Nat.shiftLeft_zero, orAdd (s := 7) (by omega)]
  simp only [Nat.reducePow]
  rw [orAdd (s := 14) (by omega)]
  simp only [Nat.reducePow]
  rw [orAdd (s := 21) (by omega)]
  simp only [Nat.reducePow]
  rw [orAdd (s := 28) (by omega)]
  simp only [Nat.reducePow]
  rw [orAdd (s := 35) (by omega)]
  simp only [Nat.reducePow]
  rw [orAdd (s := 42) (by omega)]
  simp only [Nat.reducePow]
  rw [orAdd (s := 49) (by omega)]
theorem exV_eq (n s : Nat) : exV n s = n / 2 ^ s % 128 * 2 := by
  unfold exV
  rw [and127_mod, Nat.shiftRight_eq_div_pow, Nat.shiftLeft_eq]
/-- the key's digits: seven bits and an idle one, eight times -/
def sD : Nat → Nat → Nat
  | 0, _ => 0
  | n + 1, k => k / 2 % 128 + 128 * sD n (k / 256)
def eD : Nat → Nat → Nat
  | 0, _ => 0
  | n + 1, m => 2 * (m % 128) + 256 * eD n (m / 128)
def bD : Nat → Nat → Nat
  | 0, _ => 0
  | n + 1, k => 2 * (k / 2 % 128) + 256 * bD n (k / 256)
theorem eD_sD : ∀ n k, eD n (sD n k) = bD n k
  | 0, _ => rfl
  | n + 1, k => by
    show 2 * ((k / 2 % 128 + 128 * sD n (k / 256)) % 128) + 256 * eD n ((k / 2 % 128 + 128 * sD n (k / 256)) / 128) = 2 * (k / 2 % 128) + 256 * bD n (k / 256)
    have e1 : (k / 2 % 128 + 128 * sD n (k / 256)) % 128 = k / 2 % 128 := by omega
    have e2 : (k / 2 % 128 + 128 * sD n (k / 256)) / 128 = sD n (k / 256) := by omega
    rw [e1, e2, eD_sD n (k / 256)]
theorem shN_sD (k : Nat) : shN k = sD 8 k := by
  rw [shN_sum]
  simp only [sD, Nat.div_div_eq_div_mul, Nat.reduceMul]
  generalize k / 2 % 128 = a0
  generalize k / 512 % 128 = a1
  generalize k / 131072 % 128 = a2
  generalize k / 33554432 % 128 = a3
  generalize k / 8589934592 % 128 = a4
  generalize k / 2199023255552 % 128 = a5
  generalize k / 562949953421312 % 128 = a6
  generalize k / 144115188075855872 % 128 = a7
  omega
theorem exN_eD (n : Nat) : exN n = eD 8 n := by
  unfold exN exL its KFB.value
  simp only [List.map_cons, List.map_nil, List.foldl_cons, List.foldl_nil, exV_eq, Nat.reducePow, eD, Nat.div_div_eq_div_mul, Nat.reduceMul, Nat.div_one]
  generalize n % 128 = a0
  generalize n / 128 % 128 = a1
  generalize n / 16384 % 128 = a2
  generalize n / 2097152 % 128 = a3
  generalize n / 268435456 % 128 = a4
  generalize n / 34359738368 % 128 = a5
  generalize n / 4398046511104 % 128 = a6
  generalize n / 562949953421312 % 128 = a7
  omega
def lowD (k : Nat) : Nat → Nat
  | 0 => 0
  | n + 1 => lowD k n + 2 * (k / 256 ^ n / 2 % 128) * 256 ^ n
theorem baAll_low (k : Nat) : ∀ n, baAll k n = lowD k n + k / 256 ^ n * 256 ^ n ∧ lowD k n < 256 ^ n
  | 0 => ⟨by show k = 0 + k / 1 * 1; omega, by show 0 < 1; decide⟩
  | n + 1 => by
    obtain ⟨ih, hl⟩ := baAll_low k n
    have hp : 0 < 256 ^ n := Nat.pow_pos (by decide)
    have hd : k / 256 ^ (n + 1) = k / 256 ^ n / 256 := by rw [Nat.pow_succ, Nat.div_div_eq_div_mul]
    show baStep (baAll k n) n = (lowD k n + 2 * (k / 256 ^ n / 2 % 128) * 256 ^ n) + k / 256 ^ (n + 1) * 256 ^ (n + 1) ∧ lowD k n + 2 * (k / 256 ^ n / 2 % 128) * 256 ^ n < 256 ^ (n + 1)
    rw [ih, hd, baStep, Nat.pow_succ]
    generalize hq : k / 256 ^ n = q
    generalize hL : lowD k n = L at hl ⊢
    generalize 256 ^ n = p at hl hp ⊢
    have e1 : (L + q * p) / p = q := by rw [Nat.add_mul_div_right _ _ hp, Nat.div_eq_of_lt hl, Nat.zero_add]
    rw [e1]
    obtain ⟨b, r, t, rfl, hb, hr⟩ : ∃ b r t, q = b + 2 * r + 256 * t ∧ b < 2 ∧ r < 128 := ⟨q % 2, q / 2 % 128, q / 256, by omega, by omega, by omega⟩
    have f1 : (b + 2 * r + 256 * t) % 2 = b := by omega
    have f2 : (b + 2 * r + 256 * t) / 2 % 128 = r := by omega
    have f3 : (b + 2 * r + 256 * t) / 256 = t := by omega
    rw [f1, f2, f3]
    have g1 : (b + 2 * r + 256 * t) * p = b * p + (2 * r * p + t * (p * 256)) := by
      rw [Nat.add_mul, Nat.add_mul, Nat.add_assoc]
      congr 2
      rw [Nat.mul_comm 256 t, Nat.mul_assoc, Nat.mul_comm 256 p]
    refine ⟨by rw [g1]; omega, ?_⟩
    have g2 : 2 * r * p ≤ 254 * p := Nat.mul_le_mul_right _ (by omega)
    omega
theorem baAll_bD (k : Nat) (h : k < 18446744073709551616) : baAll k 8 = bD 8 k := by
  have e := (baAll_low k 8).1
  rw [e]
  have z : k / 256 ^ 8 = 0 := Nat.div_eq_of_lt (by simpa using h)
  rw [z]
  simp only [lowD, bD, Nat.div_div_eq_div_mul, Nat.reduceMul, Nat.reducePow, Nat.div_one]
  generalize k / 2 % 128 = a0
  generalize k / 512 % 128 = a1
  generalize k / 131072 % 128 = a2
  generalize k / 33554432 % 128 = a3
  generalize k / 8589934592 % 128 = a4
  generalize k / 2199023255552 % 128 = a5
  generalize k / 562949953421312 % 128 = a6
  generalize k / 144115188075855872 % 128 = a7
  omega
theorem exN_bare (key : Nat) (h : key < 18446744073709551616) : exN (shN key) = baAll key 8 := by
  rw [exN_eD, shN_sD, eD_sD, baAll_bD key h]
theorem exL_bare (key : Nat) (h : key < 18446744073709551616) : exL (shN key) = oct8 ((baAll key 8 : Nat) : Int) := by
  rw [(exL_oct _).1, exN_bare key h]

/-- what is asked of the key's first table -/
structure KeyTab (ps : List (List (List Nat) × List (List Nat))) : Prop where
  d : disj (ps.getD 0 ([], [])).1 = true
  l : (ps.getD 0 ([], [])).1.all rowLin = true
  z : ∀ i, i < 8 → perm (ps.getD 0 ([], [])).1 (256 ^ i) = 0
theorem KeyTab.flip {ps : List (List (List Nat) × List (List Nat))} (K : KeyTab ps) (x i : Nat) (hi : i < 8) : perm (ps.getD 0 ([], [])).1 (x ^^^ 256 ^ i) = perm (ps.getD 0 ([], [])).1 x := by
  rw [perm_lin K.d K.l, K.z i hi, Nat.xor_zero]
theorem law_num {ps : List (List (List Nat) × List (List Nat))} {spe ie cf : List (List Nat)} (K : KeyTab ps) (X : Trip ie cf spe) (d : Int) (key block salt : Nat) (h : key < 18446744073709551616) :
    desV ps spe ie cf (exN (shN key)) block salt 2 = desV ps spe ie cf (tuAll d key 8) (desV ps spe ie cf key block salt 1) salt 1 := by
  obtain ⟨t1, t2⟩ := ks_same (ps := ps) (tuAll_same K.flip d key 8 (Nat.le_refl _))
  obtain ⟨b1, b2⟩ := ks_same (ps := ps) (baAll_same K.flip key 8 (Nat.le_refl _))
  unfold desV
  rw [exN_bare key h, t1, t2, b1, b2]
  exact (X.twice _ _ _ _).symm
theorem shN_turned (d : Int) (key : Nat) : shN (tuAll d key 8) = shN key := tuAll_same shN_flip d key 8 (Nat.le_refl _)
end Mine

/-! D31 -/
namespace Mine
theorem fresh_D31 : True := by
  w_top off
  exact True.intro
open PySem.Spec PySem.Calls
theorem fmod_nat (x : Int) (k : Nat) (B : Int) (h : (2 : Int) ^ k = B + 1) (hB : 0 ≤ B) : ∃ n : Nat, x.fmod (2 ^ k) = (n : Int) ∧ (n : Int) ≤ B := by
  have h1 : 0 ≤ x.fmod (2 ^ k) := Int.fmod_nonneg_of_pos _ (by omega)
  have h2 : x.fmod (2 ^ k) < 2 ^ k := Int.fmod_lt_of_pos _ (by omega)
  obtain ⟨n, e⟩ := Int.eq_ofNat_of_zero_le h1
  exact ⟨n, e, by omega⟩
theorem fmod64 (x : Int) : ∃ n : Nat, x.fmod (2 ^ Int.toNat 64) = (n : Int) ∧ (n : Int) ≤ 18446744073709551615 := fmod_nat x _ _ (by decide) (by decide)
theorem fmod24 (x : Int) : ∃ n : Nat, x.fmod (2 ^ Int.toNat 24) = (n : Int) ∧ (n : Int) ≤ 16777215 := fmod_nat x _ _ (by decide) (by decide)
theorem drop5 (w : World) : (stmtsOf (hd.heap_39 w.params) 223).drop 5 = stmtAt (hd.heap_39 w.params) 223 5 :: (stmtsOf (hd.heap_39 w.params) 223).drop 6 := by kernel_rfl
theorem law_rest (w : World) (L f : Addr) (cdv : Value) (A : Around) (Q : Flow → Shared → Prop) (E : Value → Shared → Prop) (s : Shared) (b : Heap) (m : Str → Option Value) (p : Program) (loose : List Str) (mean : ExcName → Option Value) (mg mb : Str → Option Value) (d zk zb zs : Int) (t1 t2 t3 t4 t5 t6 : Tok)
    (nk : ∃ n : Nat, zk = (n : Int) ∧ (n : Int) ≤ 18446744073709551615) (nb : ∃ n : Nat, zb = (n : Int) ∧ (n : Int) ≤ 18446744073709551615) (ns : ∃ n : Nat, zs = (n : Int) ∧ (n : Int) ≤ 16777215)
    {rs : List Addr} {ps : List (List (List Nat) × List (List Nat))} {spe ie cf : List (List Nat)} (TT : Tabs w rs ps spe ie cf) (KT : KeyTab ps) (TR : Trip ie cf spe) (C : CodeHd b 210 206) (C2 : CodeHd b 187 183) (hgP : b.get? 206 = none) (hgP2 : b.get? 183 = none)
    (hT : TabSt b s.heap 206 97 4 desQual) (hT2 : TabSt b s.heap 183 45 28 exQual) (hG : AllBare s.gens) (h206 : (206 : Nat) ≠ L) (h183 : (183 : Nat) ≠ L)
    (hh : A.handled = none) (hdp : A.depth + 9 < recursionLimit) (X : (hd.heap_39 w.params).In b) (T : Top p loose mean mg mb b)
    (F : Fr b L s.heap m) (h4 : m "fourth" = some (.int d t1)) (hmk : m "key" = some (.int zk t2)) (hmb : m "block" = some (.int zb t3)) (hms : m "salt" = some (.int zs t4)) (hmt : m "turned" = some (.int zk t5)) (hma : m "bare" = some (.int zk t6))
    (hret : ∀ (h' : Heap) (tk' : Nat) (gens' : Array GenState), (∀ a o, b.get? a = some o → h'.get? a = some o) → TabSt b h' 206 97 4 desQual → TabSt b h' 183 45 28 exQual → AllBare gens' → Q (.ret (.bool true)) { s with heap := h', toks := tk', gens := gens' })
    (hE : PassesOwn (model PySem.Challenge.rw_aj5033_01.row.prog w) A (lawEnv (hd.heap_39 w.params) L f cdv) E) :
  wpAny (model PySem.Challenge.rw_aj5033_01.row.prog w) A (execs ((stmtsOf (hd.heap_39 w.params) 223).drop 5) (lawEnv (hd.heap_39 w.params) L f cdv)) Q E s := by
  obtain ⟨key, rfl, hk⟩ := nk
  obtain ⟨block, rfl, hbl⟩ := nb
  obtain ⟨salt, rfl, hsa⟩ := ns
  have hkey : key < 18446744073709551616 := by omega
  have htu : ((tuAll d key 8 : Nat) : Int) ≤ 18446744073709551615 := by have := tuAll_lt d key hkey 8 (Nat.le_refl _); omega
  have hba : ((baAll key 8 : Nat) : Int) ≤ 18446744073709551615 := by have := baAll_le key 8; omega
  have N := allNews_ok b L s.heap
  rw [drop5]
  refine wpAny_execs_cons ?_
  refine law_for w L f cdv A _ E s b m _ p loose mean mg mb d key t1 t5 t6 hh X T F N h4 hmt hma (fun h' tk m' t t' F' N' e1 e2 e3 => ?_) hE
  show wpAny _ _ (execs _ _) _ _ _
  have k : ∀ a o, a ≠ L → s.heap.get? a = some o → h'.get? a = some o := allNews_keep F F' N' fun _ x => x
  rw [← chain_eq (m := m') (l := [("key", .int (key : Nat) t2), ("block", .int (block : Nat) t3), ("salt", .int (salt : Nat) t4), ("turned", .int (tuAll d key 8 : Nat) t), ("bare", .int (baAll key 8 : Nat) t')]) (fun q hq => ?_)] at F'
  · exact law_end w L f cdv A Q E { s with heap := h', toks := tk } b m' p loose mean mg mb key block salt (tuAll d key 8) (baAll key 8) (fun n => match n with | 0 => t2 | 1 => t3 | 2 => t4 | 3 => t | _ => t') hk hbl hsa htu hba
      (shN_turned d key) (exL_bare key hkey) (exN_bare key hkey) TT (law_num KT TR d key block salt hkey) C C2 hgP hgP2 (TabSt.frame hT F h206 k) (TabSt.frame hT2 F h183 k) hG h206 h183 hh hdp X T F' hret
  · simp only [List.mem_cons, List.not_mem_nil, or_false] at hq
    rcases hq with rfl | rfl | rfl | rfl | rfl
    · exact (e3 "key" (by decide) (by decide) (by decide)).trans hmk
    · exact (e3 "block" (by decide) (by decide) (by decide)).trans hmb
    · exact (e3 "salt" (by decide) (by decide) (by decide)).trans hms
    · exact e1
    · exact e2
local macro_rules | `(tactic| walk_at "execs cons") => `(tactic| (k_here; (with_reducible show wpAny _ _ (execs (Stmt.For _ _ _ _ _ :: _) _) _ _ _); refine' TStop.get ?_))
abbrev fourL (a b c d : Int) (τ : Nat → Tok) : List (Str × Value) := [("first", .int a (τ 0)), ("second", .int b (τ 1)), ("third", .int c (τ 2)), ("fourth", .int d (τ 3))]
theorem law_mid (w : World) (L f : Addr) (cdv : Value) (A : Around) (Q : Flow → Shared → Prop) (E : Value → Shared → Prop) (s : Shared) (b : Heap) (m : Str → Option Value) (p : Program) (loose : List Str) (mean : ExcName → Option Value) (mg mb : Str → Option Value) (a1 a2 a3 a4 : Int) (τ : Nat → Tok)
    {rs : List Addr} {ps : List (List (List Nat) × List (List Nat))} {spe ie cf : List (List Nat)} (TT : Tabs w rs ps spe ie cf) (KT : KeyTab ps) (TR : Trip ie cf spe) (C : CodeHd b 210 206) (C2 : CodeHd b 187 183) (hgP : b.get? 206 = none) (hgP2 : b.get? 183 = none)
    (hT : TabSt b s.heap 206 97 4 desQual) (hT2 : TabSt b s.heap 183 45 28 exQual) (hG : AllBare s.gens) (h206 : (206 : Nat) ≠ L) (h183 : (183 : Nat) ≠ L)
    (hh : A.handled = none) (hdp : A.depth + 9 < recursionLimit) (X : (hd.heap_39 w.params).In b) (T : Top p loose mean mg mb b)
    (F : Fr b L s.heap (chain (fourL a1 a2 a3 a4 τ) m))
    (hret : ∀ (h' : Heap) (tk' : Nat) (gens' : Array GenState), (∀ a o, b.get? a = some o → h'.get? a = some o) → TabSt b h' 206 97 4 desQual → TabSt b h' 183 45 28 exQual → AllBare gens' → Q (.ret (.bool true)) { s with heap := h', toks := tk', gens := gens' })
    (hE : PassesOwn (model PySem.Challenge.rw_aj5033_01.row.prog w) A (lawEnv (hd.heap_39 w.params) L f cdv) E) :
  wpAny (model PySem.Challenge.rw_aj5033_01.row.prog w) A (execs ((stmtsOf (hd.heap_39 w.params) 223).drop 1) (lawEnv (hd.heap_39 w.params) L f cdv)) Q E s := by
  have N := allNews_ok b L s.heap
  have kk : ∀ h' m', Fr b L h' m' → News b L h' (allNews b L s.heap) → ∀ a o, a ≠ L → s.heap.get? a = some o → h'.get? a = some o := fun h' m' F' N' => allNews_keep F F' N' fun _ x => x
  obtain ⟨ah, ad, af, ag, au⟩ := A
  dsimp only at hh hdp
  subst hh
  have F0 := TStop.mk F
  have hE0 := TStop.mk hE
  clear hE
  dsimp only [chain, fourL] at F
  unfold lawEnv
  conv in (List.drop _ _) => whnf
  conv in (scopeOf _ _) => whnf
  revert X
  k_fill
  intro X
  k_steps
  refine TStop.mk ?_
  with_reducible rename Fr _ _ _ _ => F1
  with_reducible rename News _ _ _ _ => N1
  have k := kk _ _ F1 fun q hq => N1 q (.tail _ hq)
  exact law_rest w L f cdv _ Q E _ b _ p loose mean mg mb _ _ _ _ _ _ _ _ _ _ (fmod64 _) (fmod64 _) (fmod24 _) TT KT TR C C2 hgP hgP2 (TabSt.frame hT F0.get h206 k) (TabSt.frame hT2 F0.get h183 k) hG h206 h183 rfl hdp X T F1 rfl rfl rfl rfl rfl rfl hret hE0.get
end Mine

/-! D32 -/
namespace Mine
theorem fresh_D32 : True := by
  w_top off
  exact True.intro
open PySem.Spec PySem.Calls
/-! the tables, read out of the head -/
def valsOf (K : Frag) (a : Addr) : List Value := match K.lookup a with
  | some o => (match o.data with | .seq xs _ => xs.toList | _ => [])
  | none => []
def natV : Value → Nat
  | .int i _ => i.toNat
  | _ => 0
def refV : Value → Addr
  | .ref a => a
  | _ => 0
def rowT (K : Frag) (a : Addr) : List Nat := (valsOf K a).map natV
def refsT (K : Frag) (a : Addr) : List Addr := (valsOf K a).map refV
def tabT (K : Frag) (a : Addr) : List (List Nat) := (refsT K a).map (rowT K)
def isTupK (K : Frag) (a : Addr) : Bool := match K.lookup a with
  | some o => o.cls == .type "tuple" && (match o.data with | .seq _ _ => true | _ => false)
  | none => false
def intsOk : List Value → Bool
  | [] => true
  | .int (.ofNat _) _ :: l => intsOk l
  | _ => false
def refsOk : List Value → Bool
  | [] => true
  | .ref _ :: l => refsOk l
  | _ => false
def rowOk (K : Frag) (n : Nat) (a : Addr) : Bool := isTupK K a && intsOk (valsOf K a) && Nat.beq (rowT K a).length n
def tabOk (K : Frag) (a : Addr) : Bool := isTupK K a && refsOk (valsOf K a) && (refsT K a).all (rowOk K 16)
theorem tup_of {K : Frag} {a : Addr} {h : Heap} (X : K.In h) (hk : isTupK K a = true) : IsTup h a (valsOf K a).toArray := by
  unfold isTupK at hk
  unfold valsOf
  split at hk
  · rename_i o ho
    rw [Bool.and_eq_true] at hk
    refine ⟨o, X _ _ ho, beq_iff_eq.mp hk.1, ?_⟩
    obtain ⟨hk1, hk2⟩ := hk
    split at hk2
    · rename_i xs n hd
      exact ⟨n, by rw [hd]⟩
    · cases hk2
  · cases hk
theorem ints_of : ∀ {l : List Value}, intsOk l = true → IntsAre l (zInts (l.map natV))
  | [], _ => .nil
  | .int (.ofNat n) t :: l, h => .cons _ t (ints_of h)
theorem refs_of : ∀ {l : List Value}, refsOk l = true → (l.map refV).map Value.ref = l
  | [], _ => rfl
  | .ref a :: l, h => congrArg (Value.ref a :: ·) (refs_of (l := l) h)
theorem row_of {K : Frag} {a : Addr} {n : Nat} {h : Heap} (X : K.In h) (hk : rowOk K n a = true) : IsTup h a (valsOf K a).toArray ∧ IntsAre (valsOf K a) (zInts (rowT K a)) ∧ (rowT K a).length = n := by
  simp only [rowOk, Bool.and_eq_true] at hk
  exact ⟨tup_of X hk.1.1, ints_of hk.1.2, Nat.eq_of_beq_eq_true hk.2⟩
theorem rows_of {K : Frag} {h : Heap} (X : K.In h) : ∀ {rs : List Addr}, rs.all (rowOk K 16) = true → RowsAt h rs (rs.map (rowT K))
  | [], _ => .nil
  | r :: rs, hk => by
    rw [List.all_cons, Bool.and_eq_true] at hk
    obtain ⟨h1, h2, h3⟩ := row_of X hk.1
    exact .cons h1 h2 h3 (rows_of X hk.2)
theorem tab_at {K : Frag} {a : Addr} {h : Heap} (hk : tabOk K a = true) (X : K.In h) : TabAt h a (tabT K a) := by
  simp only [tabOk, Bool.and_eq_true] at hk
  refine ⟨refsT K a, ?_, rows_of X hk.2⟩
  rw [show (refsT K a).map Value.ref = valsOf K a from refs_of hk.1.2]
  exact tup_of X hk.1.1
def pairT (K : Frag) (r : Addr) : List (List Nat) × List (List Nat) := (tabT K ((refsT K r).getD 0 0), tabT K ((refsT K r).getD 1 0))
def pairOk (K : Frag) (r : Addr) : Bool := isTupK K r && refsOk (valsOf K r) && Nat.beq (valsOf K r).length 2 && tabOk K ((refsT K r).getD 0 0) && tabOk K ((refsT K r).getD 1 0)
theorem pair_of {K : Frag} {r : Addr} {h : Heap} (X : K.In h) (hk : pairOk K r = true) : h.IsTuple r #[.ref ((refsT K r).getD 0 0), .ref ((refsT K r).getD 1 0)] ∧ TabAt h ((refsT K r).getD 0 0) (pairT K r).1 ∧ TabAt h ((refsT K r).getD 1 0) (pairT K r).2 := by
  simp only [pairOk, Bool.and_eq_true] at hk
  obtain ⟨⟨⟨⟨k1, k2⟩, k3⟩, k4⟩, k5⟩ := hk
  refine ⟨?_, tab_at k4 X, tab_at k5 X⟩
  have h1 := tup_of X k1
  have h2 := Nat.eq_of_beq_eq_true k3
  unfold refsT
  match hv : valsOf K r, h2, k2, h1 with
  | [.ref a, .ref b], _, _, h1 => exact h1

abbrev psT (K : Frag) : List (List (List Nat) × List (List Nat)) := (refsT K 110).map (pairT K)
abbrev speT (K : Frag) : List (List Nat) := [rowT K 120, rowT K 121, rowT K 122, rowT K 123, rowT K 124, rowT K 125, rowT K 126, rowT K 127]
abbrev ieT (K : Frag) : List (List Nat) := tabT K 119
abbrev cfT (K : Frag) : List (List Nat) := tabT K 145
section
variable (w : World)
theorem k_pairs : (refsT (hd.heap_39 w.params) 110).all (pairOk (hd.heap_39 w.params)) = true := by kernel_rfl
theorem k_pairs8 : Nat.beq (refsT (hd.heap_39 w.params) 110).length 8 = true := by kernel_rfl
theorem k_110 : isTupK (hd.heap_39 w.params) 110 = true := by kernel_rfl
theorem k_110r : refsOk (valsOf (hd.heap_39 w.params) 110) = true := by kernel_rfl
theorem k_spe : [120, 121, 122, 123, 124, 125, 126, 127].all (rowOk (hd.heap_39 w.params) 64) = true := by kernel_rfl
theorem k_ie : tabOk (hd.heap_39 w.params) 119 = true := by kernel_rfl
theorem k_cf : tabOk (hd.heap_39 w.params) 145 = true := by kernel_rfl
theorem k_ex : rowOk (hd.heap_39 w.params) 8 181 = true := by kernel_rfl
theorem k_its : rowT (hd.heap_39 w.params) 181 = its := by kernel_rfl
theorem k_ieD : disj (ieT (hd.heap_39 w.params)) = true := by kernel_rfl
theorem k_ieL : (ieT (hd.heap_39 w.params)).all rowLin = true := by kernel_rfl
theorem k_cfD : disj (cfT (hd.heap_39 w.params)) = true := by kernel_rfl
theorem k_cfL : (cfT (hd.heap_39 w.params)).all rowLin = true := by kernel_rfl
theorem k_ieS : (ieT (hd.heap_39 w.params)).all (fun row => row.all (inS (ieT (hd.heap_39 w.params)) (cfT (hd.heap_39 w.params)))) = true := by kernel_rfl
theorem k_sp0 : (rowT (hd.heap_39 w.params) 120).all (inS (ieT (hd.heap_39 w.params)) (cfT (hd.heap_39 w.params))) = true := by kernel_rfl
theorem k_sp1 : (rowT (hd.heap_39 w.params) 121).all (inS (ieT (hd.heap_39 w.params)) (cfT (hd.heap_39 w.params))) = true := by kernel_rfl
theorem k_sp2 : (rowT (hd.heap_39 w.params) 122).all (inS (ieT (hd.heap_39 w.params)) (cfT (hd.heap_39 w.params))) = true := by kernel_rfl
theorem k_sp3 : (rowT (hd.heap_39 w.params) 123).all (inS (ieT (hd.heap_39 w.params)) (cfT (hd.heap_39 w.params))) = true := by kernel_rfl
theorem k_sp4 : (rowT (hd.heap_39 w.params) 124).all (inS (ieT (hd.heap_39 w.params)) (cfT (hd.heap_39 w.params))) = true := by kernel_rfl
theorem k_sp5 : (rowT (hd.heap_39 w.params) 125).all (inS (ieT (hd.heap_39 w.params)) (cfT (hd.heap_39 w.params))) = true := by kernel_rfl
theorem k_sp6 : (rowT (hd.heap_39 w.params) 126).all (inS (ieT (hd.heap_39 w.params)) (cfT (hd.heap_39 w.params))) = true := by kernel_rfl
theorem k_sp7 : (rowT (hd.heap_39 w.params) 127).all (inS (ieT (hd.heap_39 w.params)) (cfT (hd.heap_39 w.params))) = true := by kernel_rfl
theorem k_ieB : (ieT (hd.heap_39 w.params)).all (fun row => row.all fun e => Nat.ble e 18446744073709551615) = true := by kernel_rfl
theorem k_cfB : (cfT (hd.heap_39 w.params)).all (fun row => row.all fun e => Nat.ble e 18446744073709551615) = true := by kernel_rfl
theorem k_ie0 : Nat.beq (perm (ieT (hd.heap_39 w.params)) 0) 0 = true := by kernel_rfl
theorem k_kD : disj ((psT (hd.heap_39 w.params)).getD 0 ([], [])).1 = true := by kernel_rfl
theorem k_kL : ((psT (hd.heap_39 w.params)).getD 0 ([], [])).1.all rowLin = true := by kernel_rfl
theorem k_kZ : [0, 1, 2, 3, 4, 5, 6, 7].all (fun i => Nat.beq (perm ((psT (hd.heap_39 w.params)).getD 0 ([], [])).1 (256 ^ i)) 0) = true := by kernel_rfl
theorem all_at {α : Type} {p : α → Bool} {l : List α} (h : l.all p = true) : ∀ x ∈ l, p x = true := List.all_eq_true.mp h
theorem trip_T : Trip (ieT (hd.heap_39 w.params)) (cfT (hd.heap_39 w.params)) (speT (hd.heap_39 w.params)) where
  ieD := k_ieD w
  ieL := k_ieL w
  cfD := k_cfD w
  cfL := k_cfL w
  ieS := fun row hr e he => InS.of (all_at (all_at (k_ieS w) row hr) e he)
  spS := fun row hr e he => by
    refine InS.of ?_
    simp only [List.mem_cons, List.not_mem_nil, or_false] at hr
    rcases hr with rfl | rfl | rfl | rfl | rfl | rfl | rfl | rfl
    · exact all_at (k_sp0 w) e he
    · exact all_at (k_sp1 w) e he
    · exact all_at (k_sp2 w) e he
    · exact all_at (k_sp3 w) e he
    · exact all_at (k_sp4 w) e he
    · exact all_at (k_sp5 w) e he
    · exact all_at (k_sp6 w) e he
    · exact all_at (k_sp7 w) e he
  ieB := fun row hr e he => Nat.lt_succ_of_le (Nat.le_of_ble_eq_true (all_at (all_at (k_ieB w) row hr) e he))
  cfB := fun row hr e he => Nat.lt_succ_of_le (Nat.le_of_ble_eq_true (all_at (all_at (k_cfB w) row hr) e he))
theorem key_T : KeyTab (psT (hd.heap_39 w.params)) where
  d := k_kD w
  l := k_kL w
  z := fun i hi => by
    have h := all_at (k_kZ w)
    refine eight (P := fun i => perm ((psT (hd.heap_39 w.params)).getD 0 ([], [])).1 (256 ^ i) = 0) ?_ ?_ ?_ ?_ ?_ ?_ ?_ ?_ i hi <;> exact Nat.eq_of_beq_eq_true (h _ (by decide))
theorem cf_bound {ie cf spe : List (List Nat)} (X : Trip ie cf spe) (x : Nat) : ((perm cf x : Nat) : Int) ≤ 18446744073709551615 := by
  have := X.cfLt x
  omega
theorem tabs_T : Tabs w (refsT (hd.heap_39 w.params) 110) (psT (hd.heap_39 w.params)) (speT (hd.heap_39 w.params)) (ieT (hd.heap_39 w.params)) (cfT (hd.heap_39 w.params)) where
  pairs := ⟨Nat.eq_of_beq_eq_true (k_pairs8 w), fun i r hr => ⟨_, _, _, _, by rw [List.getElem?_map, hr]; rfl, fun h X => pair_of X (all_at (k_pairs w) r (List.mem_of_getElem? hr))⟩⟩
  tup := fun h X => by
    rw [show (refsT (hd.heap_39 w.params) 110).map Value.ref = valsOf (hd.heap_39 w.params) 110 from refs_of (k_110r w)]
    exact tup_of X (k_110 w)
  hspe := by
    have h := all_at (k_spe w)
    have g : ∀ a, rowOk (hd.heap_39 w.params) 64 a = true → RowOf w a (rowT (hd.heap_39 w.params) a) := fun a ha h X => ⟨_, row_of X ha⟩
    intro i hi
    refine eight (P := fun i => RowOf w (120 + i) ((speT (hd.heap_39 w.params)).getD i [])) ?_ ?_ ?_ ?_ ?_ ?_ ?_ ?_ i hi <;> exact g _ (h _ (by decide))
  hie := fun h X => tab_at (k_ie w) X
  hcf := fun h X => tab_at (k_cf w) X
  ie0 := Nat.eq_of_beq_eq_true (k_ie0 w)
  ex := fun h X => ⟨_, (row_of X (k_ex w)).1, by rw [← k_its w]; exact (row_of X (k_ex w)).2.1⟩
  bound := fun salt key src n => (trip_T w).bound _ _ _ src n
  boundC := cf_bound (trip_T w)
end
end Mine

/-! D33 -/
namespace Mine
local macro_rules | `(tactic| walk_at "idle D33 0") => `(tactic| fail "idle")
theorem fresh_D33 : True := by
  w_top off
  exact True.intro
open PySem.Spec PySem.Calls
theorem ints4 {ys : List Value} {a b c d : Int} (h : IntsAre ys [a, b, c, d]) : ∃ t1 t2 t3 t4, ys = [.int a t1, .int b t2, .int c t3, .int d t4] := by
  cases h with | cons _ t1 h => cases h with | cons _ t2 h => cases h with | cons _ t3 h => cases h with | cons _ t4 h => cases h; exact ⟨t1, t2, t3, t4, rfl⟩
local macro_rules | `(tactic| walk_at "execs cons") => `(tactic| (k_here; (with_reducible show wpAny _ _ (execs (Stmt.Assign [Expr.Name (Str.ofString "key") _] _ _ :: _) _) _ _ _); refine' TStop.get ?_))
theorem law_mid4 (w : World) (L f : Addr) (cdv : Value) (A : Around) (Q : Flow → Shared → Prop) (E : Value → Shared → Prop) (s : Shared) (b : Heap) (m : Str → Option Value) (p : Program) (loose : List Str) (mean : ExcName → Option Value) (mg mb : Str → Option Value) (a1 a2 a3 a4 : Int) (t1 t2 t3 t4 : Tok)
    (C : CodeHd b 210 206) (C2 : CodeHd b 187 183) (hgP : b.get? 206 = none) (hgP2 : b.get? 183 = none)
    (hT : s.heap.get? 206 = some (tabObj #[])) (hT2 : s.heap.get? 183 = some (tabObj #[])) (hG : AllBare s.gens) (h206 : (206 : Nat) ≠ L) (h183 : (183 : Nat) ≠ L)
    (hh : A.handled = none) (hdp : A.depth + 9 < recursionLimit) (X : (hd.heap_39 w.params).In b) (T : Top p loose mean mg mb b)
    (F : Fr b L s.heap m) (e1 : m "first" = some (.int a1 t1)) (e2 : m "second" = some (.int a2 t2)) (e3 : m "third" = some (.int a3 t3)) (e4 : m "fourth" = some (.int a4 t4))
    (hret : ∀ (h' : Heap) (tk' : Nat) (gens' : Array GenState), (∀ a o, b.get? a = some o → h'.get? a = some o) → TabSt b h' 206 97 4 desQual → TabSt b h' 183 45 28 exQual → AllBare gens' → Q (.ret (.bool true)) { s with heap := h', toks := tk', gens := gens' })
    (hE : PassesOwn (model PySem.Challenge.rw_aj5033_01.row.prog w) A (lawEnv (hd.heap_39 w.params) L f cdv) E) :
  wpAny (model PySem.Challenge.rw_aj5033_01.row.prog w) A (execs ((stmtsOf (hd.heap_39 w.params) 223).drop 1) (lawEnv (hd.heap_39 w.params) L f cdv)) Q E s := by
  refine law_mid w L f cdv A Q E s b m p loose mean mg mb a1 a2 a3 a4 (fun n => match n with | 0 => t1 | 1 => t2 | 2 => t3 | _ => t4) (tabs_T w) (key_T w) (trip_T w) C C2 hgP hgP2 ⟨_, hT, .inl rfl⟩ ⟨_, hT2, .inl rfl⟩ hG h206 h183 hh hdp X T ?_ hret hE
  rw [chain_eq (fun q hq => ?_)]
  · exact F
  · simp only [fourL, List.mem_cons, List.not_mem_nil, or_false] at hq
    rcases hq with rfl | rfl | rfl | rfl <;> assumption
theorem law_t : PySem.Challenge.rw_aj5033_01.Holds := Mine.hd (by
  k_fill
  intro w s₀ s₁ mg mb G Y fa o pm cd doc dV kV ho hdd hcd hD hmg hg args vals as hpre hlay hrd hwl hlo
  have KX := km_in_of Y
  km_tabs Y
  have X := (Ground.X G).1
  have V := (Ground.X G).2
  refine Ground.open G ?_
  intro T B D TE TW
  try (refine guard_noD D (by decide +kernel) ?_; clear D)
  km_lay T hmg ho hdd cd
  replace hT9 : TabsAt [(210, 206), (187, 183)] s₁.heap := List.forall_mem_cons.mpr ⟨hT9 _ (.head _), List.forall_mem_cons.mpr ⟨tab_of (x := Str.ofString "expand_des_key") (c := 187) (P := 183) T KX rfl (by kernel_rfl), fun _ h => nomatch h⟩⟩
  clear hmg
  wrow_args hpre hlay hrd hwl hlo
  all_goals (
    first | refine callC_kw (enter_call ?_) | refine enter_call ?_
    w_top on
    refine law_post hT9 (fun _ => rfl) (by kernel_rfl) ?_
    w_call any ho hdd hcd hD T F
    clear hdd
    kn_ghosts F T
    k_drop
    skip)
  have hg0 : AllBare s₁.gens := by
    rw [hg]
    intro g hm
    simp at hm
  k_steps
  with_reducible rename Fr _ _ _ _ => F1
  with_reducible rename News _ _ _ _ => N1
  rename IntsAre _ (List.map _ _) => hI8
  obtain ⟨t1, t2, t3, t4, rfl⟩ := ints4 hI8
  clear hI8
  k_steps
  refine TStop.mk ?_
  with_reducible rename Fr _ _ _ _ => F2
  with_reducible rename News _ _ _ _ => N2
  refine law_mid4 w _ fa cd _ _ _ _ _ _ _ _ _ _ _ _ _ _ _ _ _ _ _ (by assumption) (by assumption) (N2 (206, _) (.tail _ (.tail _ (.head _)))).2.2 (N2 (183, _) (.tail _ (.tail _ (.tail _ (.head _))))).2.2 (N2 (206, _) (.tail _ (.tail _ (.head _)))).1 (N2 (183, _) (.tail _ (.tail _ (.tail _ (.head _))))).1 hg0 (N2 (206, _) (.tail _ (.tail _ (.head _)))).2.1 (N2 (183, _) (.tail _ (.tail _ (.tail _ (.head _))))).2.1 rfl (show callerA.depth + 1 + 9 < recursionLimit by decide) (by with_reducible assumption) (by with_reducible assumption) F2 rfl rfl rfl rfl ?_ ?_
  · intro h' tk' gens' k ht ht2 hG'
    obtain ⟨ps1, e1, _⟩ := ht
    obtain ⟨ps2, e2, _⟩ := ht2
    exact ⟨rfl, k, ⟨⟨ps1, e1⟩, ⟨ps2, e2⟩, True.intro⟩, rfl, hG'⟩
  · passes_own)
end Mine

theorem PySem.Challenge.cw_aj5033_01_holds : PySem.Challenge.rw_aj5033_01.Holds :=
  Mine.law_t
