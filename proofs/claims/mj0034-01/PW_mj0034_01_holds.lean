import PyProof.Rows.All
import Wide.All
import OpenK.AllK
import Wide.FinOn
import PyProof.PureStr
import PySem.Challenge.RW_mj0034_01
open PySem PySem.W PyProof.Rows
set_option Elab.async false
set_option linter.unusedVariables false

-- part HeadA
section
open PySem PySem.W PyProof.Rows
set_option Elab.async false
namespace Mine
set_option maxRecDepth 100000 in
set_option maxHeartbeats 8000000 in
open_top hd for PySem.Challenge.rw_mj0034_01
end Mine
end

-- part C0
section
open PySem PySem.W PyProof.Rows PySem.Calls
set_option maxRecDepth 100000
namespace Mine
abbrev Claim (prog : Program) (w : World) (K : Frag) (p : Program) (loose : List Str) (mean : ExcName → Option Value) (mg mb : Str → Option Value) (f : Addr) (news : List (Addr × Obj)) (vs : List Value) (R : Tok → Value) : Prop :=
  ∀ (cn : Str) (cs : Scope) (a : Addr) (ccd : Value) (cl : List (Str × Addr)) (A₀ : Around) (base h₀ : Heap) (L : Addr) (m : Str → Option Value) (s : Shared) (Q E : Value → Shared → Prop),
    Below A₀ base [] h₀ → Fr h₀ L s.heap m → K.In h₀ → News h₀ L s.heap news → Top p loose mean mg mb h₀ → cs.kind = .function →
    (∀ (t : Tok) (h' : Heap) (tk' : Nat), Fr h₀ L h' m → News h₀ L h' news → Q (R t) { s with heap := h', toks := tk' }) →
      wpAny (model prog w) (callerA.deeper (envX cn cs L a ccd cl)) (call (.ref f) vs) Q E s
end Mine
end

-- part C3b
section
open PySem PySem.W PyProof.Rows PySem.Calls
set_option Elab.async false
set_option maxRecDepth 100000
namespace Mine
open Builtin
local macro_rules | `(tactic| walk_at "octet walk") => `(tactic| (k_fill; (dsimp only [Claim]); intros; (rename_i hret); (refine wpAny_call ?_); (k_dflt cell_enter); k_steps; (all_goals first | with_reducible exact cb_retI hret rfl (by assumption) (by assumption) | (exfalso; omega))))

set_option maxHeartbeats 8000000 in
theorem oct_t2 {w : World} {loose : List Str} {mean : ExcName → Option Value} {mg mb : Str → Option Value} {news : List (Addr × Obj)} {x : PySem.Str} {t : Tok} (hz : x.length ≤ 8)
    (a : (2 : Int) < ((x.length : Nat) : Int)) (b : (Txt.slice x none (some 2) == PySem.Str.ofString "21") = true) (n1 : ((Txt.slice x (some 2) none) == PySem.Str.ofString "5E3F") = false) (n2 : ((Txt.slice x (some 2) none) == PySem.Str.ofString "5E9F") = false) (l : ((((Txt.slice x (some 2) none)).length : Nat) : Int) = 2) (c : 32 ≤ (16 * Txt.find (PySem.Str.ofString "0123456789ABCDEF") (Txt.slice (Txt.slice x (some 2) none) (some (-2)) (some (-1))) + Txt.find (PySem.Str.ofString "0123456789ABCDEF") (Txt.slice (Txt.slice x (some 2) none) (some (-1)) none))) (d : (16 * Txt.find (PySem.Str.ofString "0123456789ABCDEF") (Txt.slice (Txt.slice x (some 2) none) (some (-2)) (some (-1))) + Txt.find (PySem.Str.ofString "0123456789ABCDEF") (Txt.slice (Txt.slice x (some 2) none) (some (-1)) none)) ≤ 126) :
    Claim PySem.Challenge.rw_mj0034_01.row.prog w (Mine.hd.heap_39 w.params) Mine.hd.view_39 loose mean mg mb 72 news [.str x t] (fun t => .int (16 * Txt.find (PySem.Str.ofString "0123456789ABCDEF") (Txt.slice (Txt.slice x (some 2) none) (some (-2)) (some (-1))) + Txt.find (PySem.Str.ofString "0123456789ABCDEF") (Txt.slice (Txt.slice x (some 2) none) (some (-1)) none) + 128) t) := by
  walk_at "octet walk"

set_option maxHeartbeats 8000000 in
theorem oct_t4 {w : World} {loose : List Str} {mean : ExcName → Option Value} {mg mb : Str → Option Value} {news : List (Addr × Obj)} {x : PySem.Str} {t : Tok} (hz : x.length ≤ 8)
    (a : (2 : Int) < ((x.length : Nat) : Int)) (b : (Txt.slice x none (some 2) == PySem.Str.ofString "21") = true) (n1 : ((Txt.slice x (some 2) none) == PySem.Str.ofString "5E3F") = false) (n2 : ((Txt.slice x (some 2) none) == PySem.Str.ofString "5E9F") = false) (l : ((((Txt.slice x (some 2) none)).length : Nat) : Int) = 4) (e : (Txt.slice (Txt.slice x (some 2) none) none (some 2) == PySem.Str.ofString "5E") = true) (c : 64 ≤ (16 * Txt.find (PySem.Str.ofString "0123456789ABCDEF") (Txt.slice (Txt.slice x (some 2) none) (some (-2)) (some (-1))) + Txt.find (PySem.Str.ofString "0123456789ABCDEF") (Txt.slice (Txt.slice x (some 2) none) (some (-1)) none))) (d : (16 * Txt.find (PySem.Str.ofString "0123456789ABCDEF") (Txt.slice (Txt.slice x (some 2) none) (some (-2)) (some (-1))) + Txt.find (PySem.Str.ofString "0123456789ABCDEF") (Txt.slice (Txt.slice x (some 2) none) (some (-1)) none)) ≤ 95) :
    Claim PySem.Challenge.rw_mj0034_01.row.prog w (Mine.hd.heap_39 w.params) Mine.hd.view_39 loose mean mg mb 72 news [.str x t] (fun t => .int (16 * Txt.find (PySem.Str.ofString "0123456789ABCDEF") (Txt.slice (Txt.slice x (some 2) none) (some (-2)) (some (-1))) + Txt.find (PySem.Str.ofString "0123456789ABCDEF") (Txt.slice (Txt.slice x (some 2) none) (some (-1)) none) - 64 + 128) t) := by
  walk_at "octet walk"

set_option maxHeartbeats 8000000 in
theorem oct_t9 {w : World} {loose : List Str} {mean : ExcName → Option Value} {mg mb : Str → Option Value} {news : List (Addr × Obj)} {x : PySem.Str} {t : Tok} (hz : x.length ≤ 8)
    (a : (2 : Int) < ((x.length : Nat) : Int)) (b : (Txt.slice x none (some 2) == PySem.Str.ofString "21") = true) (n1 : ((Txt.slice x (some 2) none) == PySem.Str.ofString "5E3F") = false) (n2 : ((Txt.slice x (some 2) none) == PySem.Str.ofString "5E9F") = true) :
    Claim PySem.Challenge.rw_mj0034_01.row.prog w (Mine.hd.heap_39 w.params) Mine.hd.view_39 loose mean mg mb 72 news [.str x t] (fun t => .int (127 + 128) t) := by
  walk_at "octet walk"

set_option maxHeartbeats 8000000 in
theorem oct_f2 {w : World} {loose : List Str} {mean : ExcName → Option Value} {mg mb : Str → Option Value} {news : List (Addr × Obj)} {x : PySem.Str} {t : Tok} (hz : x.length ≤ 8)
    (a : ¬ (2 : Int) < ((x.length : Nat) : Int)) (n1 : (x == PySem.Str.ofString "5E3F") = false) (n2 : (x == PySem.Str.ofString "5E9F") = false) (l : (((x).length : Nat) : Int) = 2) (c : 32 ≤ (16 * Txt.find (PySem.Str.ofString "0123456789ABCDEF") (Txt.slice x (some (-2)) (some (-1))) + Txt.find (PySem.Str.ofString "0123456789ABCDEF") (Txt.slice x (some (-1)) none))) (d : (16 * Txt.find (PySem.Str.ofString "0123456789ABCDEF") (Txt.slice x (some (-2)) (some (-1))) + Txt.find (PySem.Str.ofString "0123456789ABCDEF") (Txt.slice x (some (-1)) none)) ≤ 126) :
    Claim PySem.Challenge.rw_mj0034_01.row.prog w (Mine.hd.heap_39 w.params) Mine.hd.view_39 loose mean mg mb 72 news [.str x t] (fun t => .int (16 * Txt.find (PySem.Str.ofString "0123456789ABCDEF") (Txt.slice x (some (-2)) (some (-1))) + Txt.find (PySem.Str.ofString "0123456789ABCDEF") (Txt.slice x (some (-1)) none) + 0) t) := by
  walk_at "octet walk"

set_option maxHeartbeats 8000000 in
theorem oct_f4 {w : World} {loose : List Str} {mean : ExcName → Option Value} {mg mb : Str → Option Value} {news : List (Addr × Obj)} {x : PySem.Str} {t : Tok} (hz : x.length ≤ 8)
    (a : (2 : Int) < ((x.length : Nat) : Int)) (b : (Txt.slice x none (some 2) == PySem.Str.ofString "21") = false) (n1 : (x == PySem.Str.ofString "5E3F") = false) (n2 : (x == PySem.Str.ofString "5E9F") = false) (l : (((x).length : Nat) : Int) = 4) (e : (Txt.slice x none (some 2) == PySem.Str.ofString "5E") = true) (c : 64 ≤ (16 * Txt.find (PySem.Str.ofString "0123456789ABCDEF") (Txt.slice x (some (-2)) (some (-1))) + Txt.find (PySem.Str.ofString "0123456789ABCDEF") (Txt.slice x (some (-1)) none))) (d : (16 * Txt.find (PySem.Str.ofString "0123456789ABCDEF") (Txt.slice x (some (-2)) (some (-1))) + Txt.find (PySem.Str.ofString "0123456789ABCDEF") (Txt.slice x (some (-1)) none)) ≤ 95) :
    Claim PySem.Challenge.rw_mj0034_01.row.prog w (Mine.hd.heap_39 w.params) Mine.hd.view_39 loose mean mg mb 72 news [.str x t] (fun t => .int (16 * Txt.find (PySem.Str.ofString "0123456789ABCDEF") (Txt.slice x (some (-2)) (some (-1))) + Txt.find (PySem.Str.ofString "0123456789ABCDEF") (Txt.slice x (some (-1)) none) - 64 + 0) t) := by
  walk_at "octet walk"

set_option maxHeartbeats 8000000 in
theorem oct_f9 {w : World} {loose : List Str} {mean : ExcName → Option Value} {mg mb : Str → Option Value} {news : List (Addr × Obj)} {x : PySem.Str} {t : Tok} (hz : x.length ≤ 8)
    (a : (2 : Int) < ((x.length : Nat) : Int)) (b : (Txt.slice x none (some 2) == PySem.Str.ofString "21") = false) (n1 : (x == PySem.Str.ofString "5E3F") = false) (n2 : (x == PySem.Str.ofString "5E9F") = true) :
    Claim PySem.Challenge.rw_mj0034_01.row.prog w (Mine.hd.heap_39 w.params) Mine.hd.view_39 loose mean mg mb 72 news [.str x t] (fun t => .int (127 + 0) t) := by
  walk_at "octet walk"

set_option maxHeartbeats 8000000 in
theorem oct_f3 {w : World} {loose : List Str} {mean : ExcName → Option Value} {mg mb : Str → Option Value} {news : List (Addr × Obj)} {x : PySem.Str} {t : Tok} (hz : x.length ≤ 8)
    (a : (2 : Int) < ((x.length : Nat) : Int)) (b : (Txt.slice x none (some 2) == PySem.Str.ofString "21") = false) (n1 : (x == PySem.Str.ofString "5E3F") = true) :
    Claim PySem.Challenge.rw_mj0034_01.row.prog w (Mine.hd.heap_39 w.params) Mine.hd.view_39 loose mean mg mb 72 news [.str x t] (fun t => .int (127) t) := by
  walk_at "octet walk"

end Mine
end

-- part R1
section
open PySem PySem.W PyProof.Rows PySem.Calls
set_option Elab.async false
namespace Mine
open LCg

section
variable {prog : Program} {w : World} {A : Around} {E : Value → Shared → Prop} {s : Shared} {h₀ : Heap} {L : Addr} {m : Str → Option Value} {env : Env}

/-- what a source gives: a fresh iterator that walks by itself alone -/
def Src (prog : Program) (w : World) (A : Around) (h₀ : Heap) (L : Addr) (m : Str → Option Value) (R : Shared → (Nat → Value → Prop) → Nat → List (Addr × Obj) → Prop) (xv : Value) (s₁ : Shared) : Prop :=
  ∃ (news : List (Addr × Obj)) (o : Obj) (n : Nat) (P : Nat → Value → Prop) (St : Nat → Heap → Prop), Fr h₀ L s₁.heap m ∧ News h₀ L s₁.heap news ∧
    (∀ (Q' E' : Value → Shared → Prop), Q' (.ref s₁.heap.objs.size) { s₁ with heap := s₁.heap.push o } → wpAny (model prog w) A (pyIter xv) Q' E' s₁) ∧
    Walks prog w A s₁.heap.objs.size [s₁.heap.objs.size] [s₁.heap.objs.size] n P St ∧ St 0 (s₁.heap.push o) ∧ (∀ i h, St i h → ∃ o, h.get? s₁.heap.objs.size = some o) ∧ n ≤ sizeLine ∧
    R { s₁ with heap := s₁.heap.push o } P n news

theorem src_str {x : Str} {t : Tok} {news : List (Addr × Obj)} {R : Shared → (Nat → Value → Prop) → Nat → List (Addr × Obj) → Prop} (hh : A.handled = none) (F : Fr h₀ L s.heap m) (N : News h₀ L s.heap news) (hz : x.cps.size ≤ sizeLine)
    (h : ∀ g, R { s with heap := g } (SignAt x) x.cps.size news) : Src prog w A h₀ L m R (.str x t) s := by
  cases ha : x.cps.all (· < 128)
  · exact ⟨news, _, _, _, _, F, N, fun Q' E' q => wpAny_pyIter_wide ha q, Walks.strWide hh _ x t, ⟨_, Heap.get?_push_size _ rfl, rfl, rfl⟩, fun i h' st => let ⟨o, e, _⟩ := st; ⟨o, e⟩, hz, h _⟩
  · exact ⟨news, _, _, _, _, F, N, fun Q' E' q => wpAny_pyIter_ascii ha q, Walks.strAscii hh _ x t, ⟨_, Heap.get?_push_size _ rfl, rfl, rfl⟩, fun i h' st => let ⟨o, e, _⟩ := st; ⟨o, e⟩, hz, h _⟩

theorem src_bytes {b : Array UInt8} {t : Tok} {news : List (Addr × Obj)} {R : Shared → (Nat → Value → Prop) → Nat → List (Addr × Obj) → Prop} (hh : A.handled = none) (F : Fr h₀ L s.heap m) (N : News h₀ L s.heap news) (hz : b.size ≤ sizeLine)
    (h : ∀ g, R { s with heap := g } (fun i v => ∃ c u, b[i]? = some c ∧ v = .int (c.toNat : Int) u) b.size news) : Src prog w A h₀ L m R (.bytes b t) s :=
  ⟨news, _, _, _, _, F, N, fun Q' E' q => KBw.pyIter_bytes q, KBw.walks hh _ b t, ⟨_, Heap.get?_push_size _ rfl, rfl, rfl⟩, fun i h' st => let ⟨o, e, _⟩ := st; ⟨o, e⟩, hz, h _⟩

theorem src_range {r : Addr} {a b c : Int} {t u v : Tok} {n : Nat} {news : List (Addr × Obj)} {R : Shared → (Nat → Value → Prop) → Nat → List (Addr × Obj) → Prop} (hh : A.handled = none) (F : Fr h₀ L s.heap m) (N : News h₀ L s.heap news)
    (hr : IsRange s.heap r a b c t u v) (hsm : Builtin.Range.small a b c = true) (hn : Builtin.Range.rangeSize a b c = ((n : Nat) : Int)) (hz : n ≤ sizeLine)
    (h : ∀ g, R { s with heap := g } (fun i v => ∃ t, v = .int (a + i * c) t) n news) : Src prog w A h₀ L m R (.ref r) s := by
  refine ⟨news, _, n, _, _, F, N, fun Q' E' q => wpAny_pyIter_range hr hsm q, Walks.range hh _ a c n, ?_, fun i h' st => ⟨_, st⟩, hz, h _⟩
  show IsRangeIter _ _ _ _ _
  rw [hn]; simpa using Heap.get?_push_size _ rfl

theorem ListComp_W {elt iter : Expr} {x : Str} {px : Pos} {scope : Scope} {cl : List (Str × Addr)} {pos : Pos} {Q : Value → Shared → Prop} (F₀ : Fr h₀ L s.heap m)
    (hclos : closureFor scope env = pure cl) (hcell : ∀ y ∈ scope.names, y.2 ≠ .cell) (hkind : scope.kind = .function)
    (hnames : ∀ y ∈ scope.names, y.2 = .local → scope.names.lookup y.1 = some .local) (hx : scope.names.lookup x = some .local)
    (h : wpAny (model prog w) A (eval iter env) (Src prog w A h₀ L m (fun s₂ P n news => CompRest prog w A h₀ L m env elt x scope cl s₂ (fun _ => True) P (FinE h₀ L m s₂ Q) n 0 [] news)) E s)
    (hs : ∀ x, foldedSetIterable iter env x = pure x := by intro _; rfl) :
    wpAny (model prog w) A (eval (.ListComp elt [⟨.Name x px, iter, [], 0⟩] scope pos) env) Q E s := by
  rw [eval_ListComp]
  refine wpAny_comprehension_free (use := none) rfl hs hclos hkind hnames (wpAny_mono h (fun xv s₁ h₁ => ?_) fun _ _ e => e)
  obtain ⟨news, o, n, P, St, F, N, hit, W, hst, hIo, hz, R⟩ := h₁
  refine hit _ _ ?_
  have up : ∀ b o', s₁.heap.get? b = some o' → (s₁.heap.push o).get? b = some o' := fun b o' e => Heap.get?_push_of_some _ e
  refine block_U W hz hIo (fun i h h' o' nw st e e' _ _ _ => W.frame i h h' st (fun b hb o'' e'' => by rw [List.mem_singleton.mp hb] at e'' ⊢; rw [e] at e''; cases e''; exact e')) hcell hkind hx hst (fun b hb => ?_)
    (F.keeps up) (N.grown up) (Nat.ne_of_lt F.ns.lt) (next_is_new F) (fun p hp => Nat.ne_of_lt (Heap.lt_size (N p hp).1)) trivial R ?_
  · rw [List.mem_singleton.mp hb]
    show s₁.heap.objs.size < (s₁.heap.push _).objs.size
    rw [Heap.size_push]; exact Nat.lt_succ_self _
  · intro D C h tk m' ys news' F' N' o1 hn hC₀ hD₀ hCL hDL hCD offC fin
    refine ⟨m', hn, fun h'' hs'' => fin D h'' tk (F'.change hs'' hCL hC₀) (fun p hp => ?_) o1⟩
    refine ⟨hs''.extBut _ _ ?_ (N' p hp).1, (N' p hp).2⟩
    rcases List.mem_cons.mp hp with rfl | hp
    · exact Ne.symm hCD
    · exact offC p hp

theorem ListComp_WT {ct elt iter : Expr} {x : Str} {px : Pos} {scope : Scope} {cl : List (Str × Addr)} {pos : Pos} {Q : Value → Shared → Prop} (F₀ : Fr h₀ L s.heap m)
    (hclos : closureFor scope env = pure cl) (hcell : ∀ y ∈ scope.names, y.2 ≠ .cell) (hkind : scope.kind = .function)
    (hnames : ∀ y ∈ scope.names, y.2 = .local → scope.names.lookup y.1 = some .local) (hx : scope.names.lookup x = some .local)
    (h : wpAny (model prog w) A (eval iter env) (Src prog w A h₀ L m (fun s₂ P n news => LCt.CompRestT prog w A h₀ L m env ct elt x scope cl s₂ (fun _ => True) P (FinE h₀ L m s₂ Q) n 0 [] news)) E s)
    (hs : ∀ x, foldedSetIterable iter env x = pure x := by intro _; rfl) :
    wpAny (model prog w) A (eval (.ListComp elt [⟨.Name x px, iter, [ct], 0⟩] scope pos) env) Q E s := by
  rw [eval_ListComp]
  refine wpAny_comprehension_free (use := none) rfl hs hclos hkind hnames (wpAny_mono h (fun xv s₁ h₁ => ?_) fun _ _ e => e)
  obtain ⟨news, o, n, P, St, F, N, hit, W, hst, hIo, hz, R⟩ := h₁
  refine hit _ _ ?_
  have up : ∀ b o', s₁.heap.get? b = some o' → (s₁.heap.push o).get? b = some o' := fun b o' e => Heap.get?_push_of_some _ e
  refine LCt.block_T W hz hIo (fun i h h' o' nw st e e' _ _ _ => W.frame i h h' st (fun b hb o'' e'' => by rw [List.mem_singleton.mp hb] at e'' ⊢; rw [e] at e''; cases e''; exact e')) hcell hkind hx hst (fun b hb => ?_)
    (F.keeps up) (N.grown up) (Nat.ne_of_lt F.ns.lt) (next_is_new F) (fun p hp => Nat.ne_of_lt (Heap.lt_size (N p hp).1)) trivial R ?_
  · rw [List.mem_singleton.mp hb]
    show s₁.heap.objs.size < (s₁.heap.push _).objs.size
    rw [Heap.size_push]; exact Nat.lt_succ_self _
  · intro D C h tk m' ys news' F' N' o1 hn hC₀ hD₀ hCL hDL hCD offC fin
    refine ⟨m', hn, fun h'' hs'' => fin D h'' tk (F'.change hs'' hCL hC₀) (fun p hp => ?_) o1⟩
    refine ⟨hs''.extBut _ _ ?_ (N' p hp).1, (N' p hp).2⟩
    rcases List.mem_cons.mp hp with rfl | hp
    · exact Ne.symm hCD
    · exact offC p hp

/-- a turn that leaves the ledger as it was: its value alone is told -/
abbrev Turn (prog : Program) (w : World) (A : Around) (h₀ : Heap) (L : Addr) (m : Str → Option Value) (env : Env) (elt : Expr) (x : Str) (scope : Scope) (cl : List (Str × Addr)) (s : Shared) (news : List (Addr × Obj)) (v : Value) (R : Value → Prop) : Prop :=
  ∀ (nw : List (Addr × Obj)) (C : Addr) (oC : Obj) (m₂ : Str → Option Value) (h : Heap) (tk : Nat) (Q' E' : Value → Shared → Prop), NsObj oC m₂ → m₂ x = some v → Fr h₀ L h m → News h₀ L h ((C, oC) :: (news ++ nw)) →
    (∀ y h' tk', Fr h₀ L h' m → News h₀ L h' ((C, oC) :: (news ++ nw)) → R y → Q' y { s with heap := h', toks := tk' }) →
    wpAny (model prog w) A (eval elt (compEnvC scope cl C env)) Q' E' { s with heap := h, toks := tk }

inductive All2 {α : Type} (R : α → Value → Prop) : List α → List Value → Prop
  | nil : All2 R [] []
  | cons {a : α} {v : Value} {l vs} : R a v → All2 R l vs → All2 R (a :: l) (v :: vs)
theorem All2.snoc {α : Type} {R : α → Value → Prop} {a : α} {v : Value} (h : R a v) : ∀ {l : List α} {vs : List Value}, All2 R l vs → All2 R (l ++ [a]) (vs ++ [v])
  | _, _, .nil => .cons h .nil
  | _, _, .cons q r => .cons q (r.snoc h)
theorem All2.ints {α : Type} {R : α → Value → Prop} (f : α → Int) : ∀ {l : List α} {vs : List Value}, All2 R l vs → (∀ a ∈ l, ∀ v, R a v → ∃ t, v = .int (f a) t) → IntsAre vs (l.map f)
  | _, _, .nil, _ => .nil
  | _, _, .cons (a := a) q r, h => by
    obtain ⟨t, rfl⟩ := h a (.head _) _ q
    exact .cons _ t (r.ints f fun b hb => h b (.tail _ hb))
theorem All2.strs {α : Type} {R : α → Value → Prop} (f : α → Str) : ∀ {l : List α} {vs : List Value}, All2 R l vs → (∀ a ∈ l, ∀ v, R a v → ∃ t, v = .str (f a) t) → StrsAre vs (l.map f)
  | _, _, .nil, _ => .nil
  | _, _, .cons (a := a) q r, h => by
    obtain ⟨t, rfl⟩ := h a (.head _) _ q
    exact .cons _ t (r.strs f fun b hb => h b (.tail _ hb))

theorem rest_all {α : Type} {elt : Expr} {x : Str} {scope : Scope} {cl : List (Str × Addr)} {S : List (Addr × Obj) → Prop} {P : Nat → Value → Prop} {Fin : List Value → List (Addr × Obj) → Prop} {n : Nat} {news : List (Addr × Obj)}
    (xs : List α) (V R : α → Value → Prop) (hn : xs.length = n) (hP : ∀ i v, i < n → P i v → ∃ a, xs[i]? = some a ∧ V a v) (hS : S news)
    (turn : ∀ a v, a ∈ xs → V a v → Turn prog w A h₀ L m env elt x scope cl s news v (R a))
    (fin : ∀ ys, All2 R xs ys → Fin ys news) : CompRest prog w A h₀ L m env elt x scope cl s S P Fin n 0 [] news := by
  have key : ∀ (j i : Nat) (ys : List Value), i + j = n → All2 R (xs.take i) ys → CompRest prog w A h₀ L m env elt x scope cl s S P Fin j i ys news := by
    intro j
    induction j with
    | zero =>
      intro i ys hi hy
      rw [List.take_of_length_le (by omega)] at hy
      exact CompRest.zero (fin ys hy)
    | succ j ih =>
      intro i ys hi hy
      refine CompRest.succ ?_
      intro v I oI C oC D m₂ h tk E' hv hC hx F N off ne
      obtain ⟨a, ha, hV⟩ := hP i v (by omega) hv
      refine turn a v (List.mem_of_getElem? ha) hV [(I, oI), (D, lst ys)] C oC m₂ h tk _ E' hC hx F (fun p hp => N p ?_) (fun y h' tk' F' N' hR => ?_)
      · simp only [List.mem_cons, List.mem_append, List.not_mem_nil, or_false] at hp ⊢
        rcases hp with h1 | h1 | h1 | h1 <;> simp [h1]
      · refine CompEnd.intro F' N' news (fun p hp => ?_) off hS (ih (i + 1) _ (by omega) ?_)
        · simp only [List.mem_cons, List.mem_append, List.not_mem_nil, or_false] at hp ⊢
          rcases hp with h1 | h1 | h1 | h1 <;> simp [h1]
        · rw [List.take_add_one, ha]
          exact hy.snoc hR
  exact key n 0 [] (by omega) .nil
end
end Mine
end

-- part R2
section
open PySem PySem.W PyProof.Rows PySem.Calls
set_option Elab.async false
set_option maxRecDepth 100000
namespace Mine
open Builtin

theorem slot_upper : Slot "bytes" "upper" "bytes.upper" :=
  .of (owner := "bytes") (n := "upper") (by rw [typeLookup_type, builtinLookup_eq_fast]; kernel_rfl) (by decide +kernel) (by decide +kernel) (by decide +kernel)
    (by first | exact .inl (by decide +kernel) | exact .inr (by decide +kernel)) (by rw [isSubtype_type]; kernel_rfl)
theorem type_upper : typeOf (.builtin "bytes.upper") = pure (.type "method_descriptor") := by show builtinType _ = _; rw [builtinType_eq_fast]; kernel_rfl
theorem entry_upper : entryFor table "bytes.upper" = some Builtin.«bytes.upper» := entryFor_of_tree (by kernel_rfl)
theorem args_upper (a : Value) : argsOk "bytes.upper" ⟨[a], []⟩ := by
  unfold argsOk; rw [signature?_of (id := "bytes.upper") (n := ['r', 'e', 'p', 'p', 'u']) (o := ['s', 'e', 't', 'y', 'b']) (by kernel_rfl) FB.owner_bytes]; kernel_rfl

def hexArr (b : Array UInt8) : Array Nat := b.toList.zipIdx.foldl (fun (out : Array Nat) (p : UInt8 × Nat) => (out.push (Bytes.hexDigit (p.1.toNat / 16))).push (Bytes.hexDigit (p.1.toNat % 16))) #[]

theorem hex_tree (b : Array UInt8) (t : Tok) : «bytes.hex» ⟨[.bytes b t], []⟩ = retStr ⟨hexArr b⟩ := by kernel_rfl
theorem upper_tree (b : Array UInt8) (t : Tok) : «bytes.upper» ⟨[.bytes b t], []⟩ = (mkBytes (b.toList.map Bytes.toUpper).toArray >>= fun v => ret v) := by kernel_rfl
theorem encode_ascii_tree (x : PySem.Str) (t u : Tok) : «str.encode» ⟨[.str x t, .str (PySem.Str.ofString "ascii") u], []⟩ = ((_codecs.encodeNarrow "str.encode" _codecs.asciiCodec none (.str x t) x >>= fun b => mkBytes b) >>= fun v => ret v) := by kernel_rfl

theorem loop_two {β : Type} (f : Nat → β → Sem (ForInStep β)) (b0 b1 : β) (l : List Nat) (h0 : l ≠ [] → ∀ y, f y b0 = pure (.yield b1)) (h1 : ∀ y, f y b1 = pure (.done b1)) :
    (forIn l b0 f : Sem β) = pure (if l = [] then b0 else b1) := by
  cases l with
  | nil => rfl
  | cons a l =>
    rw [List.forIn_cons, h0 (by simp) a]
    show (forIn l b1 f : Sem β) = _
    cases l with
    | nil => rfl
    | cons b l =>
      rw [List.forIn_cons, h1 b]
      rfl

theorem narrow_ascii {M : Model} {A : Around} {E : Value → Shared → Prop} {s : Shared} {Q : Array UInt8 → Shared → Prop} {id : String} {self : Value} {x : PySem.Str} (hx : ∀ c ∈ x.cps.toList, c < 128) (hz : x.length ≤ 16777216)
    (h : Q (x.cps.map fun c => c.toUInt8) s) : wpAny M A (_codecs.encodeNarrow id _codecs.asciiCodec none self x) Q E s := by
  unfold _codecs.encodeNarrow
  dsimp only
  rw [Std.Legacy.Range.forIn_eq_forIn_range']
  have hfind : x.cps.findIdx? _codecs.asciiCodec.bad = none := by
    rw [Array.findIdx?_eq_none_iff]
    intro c hc
    have := hx c (by simpa using hc)
    show decide (c ≥ 128) = false
    exact decide_eq_false (by omega)
  have hfold : x.cps.foldl (fun acc y => acc ++ (_codecs.asciiCodec.bytesOf y).toArray) #[] = x.cps.map fun c => c.toUInt8 := by
    rw [← Array.foldl_toList]
    have : ∀ (l : List Nat) (acc : Array UInt8), l.foldl (fun acc y => acc ++ (_codecs.asciiCodec.bytesOf y).toArray) acc = acc ++ (l.map fun c => c.toUInt8).toArray := by
      intro l
      induction l with
      | nil => intro acc; simp
      | cons a l ih =>
        intro acc
        rw [List.foldl_cons, ih]
        show acc ++ #[a.toUInt8] ++ _ = _
        simp
    rw [this]
    apply Array.toList_inj.mp
    simp
  have hlen : x.length = x.cps.size := rfl
  refine wpAny_bind (wpAny_of_eq (loop_two _ _ (x.cps.size, (x.cps.map fun c => c.toUInt8), {}) _ ?_ ?_) ?_)
  · intro hne y
    have hpos : 0 < x.cps.size := by
      rcases Nat.eq_zero_or_pos x.cps.size with h0 | h0
      · exfalso; apply hne
        show List.range' 0 ((x.length - 0 + 1 - 1) / 1) 1 = []
        rw [hlen, h0]; rfl
      · exact h0
    dsimp only
    rw [if_neg (by simp)]
    have hg : x.cps[0]? = some x.cps[0] := by simp [hpos]
    have hb : _codecs.asciiCodec.bad x.cps[0] = false := by
      have := hx x.cps[0] (by simp)
      show decide (x.cps[0] ≥ 128) = false
      exact decide_eq_false (by omega)
    rw [hg]
    dsimp only
    rw [if_pos (by rw [hb]; rfl)]
    simp only [Array.extract_eq_self_of_le (Nat.le_refl _), Nat.zero_add]
    rw [hfind]
    simp only [Option.getD_none, Array.extract_eq_self_of_le (Nat.le_refl _), hfold]
  · intro y
    dsimp only
    rw [if_neg (by rw [Array.size_map, sizeLine_eq]; omega)]
    rw [show x.cps[x.cps.size]? = none by simp]
  · refine wpAny_pure ?_
    split
    · rename_i e
      have h0 : x.cps.size = 0 := by
        have : List.length (List.range' [:x.length].start [:x.length].size [:x.length].step) = 0 := by rw [e]; rfl
        rw [List.length_range'] at this
        have h2 : [:x.length].size = x.length := by
          show (x.length - 0 + 1 - 1) / 1 = _
          simp
        rw [h2] at this
        exact this
      have : (x.cps.map fun c => c.toUInt8) = #[] := by
        apply Array.eq_empty_of_size_eq_zero
        simp [h0]
      rw [this] at h
      exact h
    · exact h

section
variable {prog : Program} {w : World} {A : Around} {E : Value → Shared → Prop} {s : Shared} {t u : Tok} {b : Array UInt8} {x : PySem.Str} {Q : Value → Shared → Prop}
theorem meets_hex (hz : (hexArr b).size ≤ 16777216) : Meets («bytes.hex» ⟨[.bytes b t], []⟩) (fun _ R s => ∀ t' k, R (.ok (.ret (.str ⟨hexArr b⟩ t'))) { s with toks := k }) := by
  refine .of_wp fun prog w A R s hS => ?_
  rw [hex_tree]
  exact wpAny_bind (wpAny_mkStr (wpAny_pure ⟨_, rfl, hS _ _⟩) (by rw [sizeLine_eq]; exact hz))
theorem hex_bytes (hz : (hexArr b).size ≤ 16777216) (h : ∀ t' k, Q (.str ⟨hexArr b⟩ t') { s with toks := k }) : wpAny (model prog w) A (call (.builtin "bytes.hex") [.bytes b t]) Q E s :=
  call_meets FB.slot_bytes_hex (typeIs_bytes _ _ _) FB.entry_bytes_hex (FB.args_bytes_hex_1 _) (meets_hex hz) h
theorem meets_upper (hz : b.size ≤ 16777216) : Meets («bytes.upper» ⟨[.bytes b t], []⟩) (fun _ R s => ∀ t' k, R (.ok (.ret (.bytes (b.toList.map Bytes.toUpper).toArray t'))) { s with toks := k }) := by
  refine .of_wp fun prog w A R s hS => ?_
  rw [upper_tree]
  exact wpAny_bind (wpAny_mkBytes (wpAny_pure ⟨_, rfl, hS _ _⟩) (by rw [sizeLine_eq]; simpa using hz))
theorem upper_bytes (hz : b.size ≤ 16777216) (h : ∀ t' k, Q (.bytes (b.toList.map Bytes.toUpper).toArray t') { s with toks := k }) : wpAny (model prog w) A (call (.builtin "bytes.upper") [.bytes b t]) Q E s :=
  call_meets slot_upper (typeIs_bytes _ _ _) entry_upper (args_upper _) (meets_upper hz) h
theorem meets_encode (hx : ∀ c ∈ x.cps.toList, c < 128) (hz : x.length ≤ 16777216) : Meets («str.encode» ⟨[.str x t, .str (PySem.Str.ofString "ascii") u], []⟩) (fun _ R s => ∀ t' k, R (.ok (.ret (.bytes (x.cps.map fun c => c.toUInt8) t'))) { s with toks := k }) := by
  refine .of_wp fun prog w A R s hS => ?_
  rw [encode_ascii_tree]
  refine wpAny_bind (wpAny_bind (narrow_ascii hx hz ?_))
  exact wpAny_mkBytes (wpAny_pure ⟨_, rfl, hS _ _⟩) (by rw [sizeLine_eq, Array.size_map]; exact hz)
theorem encode_ascii (hx : ∀ c ∈ x.cps.toList, c < 128) (hz : x.length ≤ 16777216) (h : ∀ t' k, Q (.bytes (x.cps.map fun c => c.toUInt8) t') { s with toks := k }) :
    wpAny (model prog w) A (call (.builtin "str.encode") [.str x t, .str (PySem.Str.ofString "ascii") u]) Q E s :=
  call_meets F.slot_str_encode (typeIs_str _ _ _) F.entry_str_encode (F.args_str_encode_2 _ _) (meets_encode hx hz) h
end
end Mine
end

-- part P1
section
open PySem PySem.W PyProof.Rows PySem.Calls
set_option Elab.async false
set_option maxRecDepth 100000
namespace Mine
open Builtin Builtin.Str StrLaws

/-! bits -/
theorem and128_fin : ∀ r : Fin 256, r.val &&& 128 = if 128 ≤ r.val then 128 else 0 := by decide +kernel
theorem and128_nat (n : Nat) : n &&& 128 = if 128 ≤ n % 256 then 128 else 0 := by
  have h : n &&& 255 = n % 256 := Nat.and_two_pow_sub_one_eq_mod n 8
  have e : n &&& 128 = (n &&& 255) &&& 128 := by rw [Nat.and_assoc]; rfl
  rw [e, h]
  exact and128_fin ⟨n % 256, by omega⟩
theorem bitAnd_128 (v : Int) : Builtin.bitAnd v 128 = if 128 ≤ v % 256 then 128 else 0 := by
  by_cases hx : 0 ≤ v
  · rw [bitAnd_pp hx (by decide)]
    show ((v.toNat &&& 128 : Nat) : Int) = _
    rw [and128_nat]
    split <;> split <;> first | rfl | omega
  · rw [bitAnd_np hx (by decide)]
    show (128 : Int) - ((128 &&& (Builtin.bitNot v).toNat : Nat) : Int) = _
    rw [Nat.and_comm, and128_nat]
    unfold Builtin.bitNot
    split <;> split <;> first | rfl | omega
theorem bitOr_32 : ∀ r : Fin 128, Builtin.bitOr (r.val : Int) 32 = if r.val % 64 < 32 then (r.val : Int) + 32 else r.val := by decide +kernel
theorem bitOr_32' {r : Int} (h0 : 0 ≤ r) (h1 : r < 128) : Builtin.bitOr r 32 = if r % 64 < 32 then r + 32 else r := by
  have := bitOr_32 ⟨r.toNat, by omega⟩
  simp only [Int.toNat_of_nonneg h0] at this
  rw [this]
  split <;> split <;> first | rfl | omega

/-! what unctrl says, in signs -/
def uw (v : Int) : List Nat :=
  let rep := if v = 127 then [94, 63] else if 32 ≤ v % 128 ∧ v % 128 ≤ 126 then [(v % 128).toNat] else if v % 128 = 127 then [94, 159] else [94, (v % 128).toNat + 64]
  if 128 ≤ v % 256 then 33 :: rep else rep
def uc (v : Int) : PySem.Str := ⟨(uw v).toArray⟩
/-- as the walk says it -/
def ucW (v : Int) : PySem.Str :=
  let rep : PySem.Str := if v = 127 then PySem.Str.ofString "^?" else if 32 ≤ Builtin.bitAnd v 127 ∧ Builtin.bitAnd v 127 ≤ 126 then ⟨#[(Builtin.bitAnd v 127).toNat]⟩ else PySem.Str.ofString "^" ++ (⟨#[(Builtin.bitOr (Builtin.bitAnd v 127) 32 + 32).toNat]⟩ : PySem.Str)
  if Builtin.bitAnd v 128 ≠ 0 then PySem.Str.ofString "!" ++ rep else rep
theorem ofS_1 : PySem.Str.ofString "^?" = ⟨#[94, 63]⟩ := by decide +kernel
theorem ofS_2 : PySem.Str.ofString "^" = ⟨#[94]⟩ := by decide +kernel
theorem ofS_3 : PySem.Str.ofString "!" = ⟨#[33]⟩ := by decide +kernel
theorem ucW_eq (v : Int) : ucW v = uc v := by
  unfold ucW uc uw
  rw [ofS_1, ofS_2, ofS_3, bitAnd_m7, bitAnd_128]
  have h0 : 0 ≤ v % 128 := by omega
  have h1 : v % 128 < 128 := by omega
  rw [bitOr_32' h0 h1]
  dsimp only
  by_cases a : v = 127
  · subst a; rfl
  · simp only [if_neg a]
    have hsplit : (if 128 ≤ v % 256 then (128 : Int) else 0) ≠ 0 ↔ 128 ≤ v % 256 := by split <;> simp_all
    by_cases b : 32 ≤ v % 128 ∧ v % 128 ≤ 126
    · simp only [if_pos b]
      by_cases c : 128 ≤ v % 256
      · rw [if_pos (hsplit.mpr c), if_pos c]; rfl
      · rw [if_neg (fun q => c (hsplit.mp q)), if_neg c]
    · simp only [if_neg b]
      have e : (⟨#[94]⟩ : PySem.Str) ++ (⟨#[((if v % 128 % 64 < 32 then v % 128 + 32 else v % 128) + 32).toNat]⟩ : PySem.Str) = ⟨(if v % 128 = 127 then [94, 159] else [94, (v % 128).toNat + 64]).toArray⟩ := by
        by_cases d : v % 128 = 127
        · rw [if_pos d, d]; rfl
        · rw [if_neg d, if_pos (by omega)]
          have : (v % 128 + 32 + 32).toNat = (v % 128).toNat + 64 := by omega
          rw [this]; rfl
      rw [e]
      by_cases c : 128 ≤ v % 256
      · rw [if_pos (hsplit.mpr c), if_pos c]
        apply PySem.Str.ext'
        rw [PySem.Str.cps_append]
        simp
      · rw [if_neg (fun q => c (hsplit.mp q)), if_neg c]
theorem uw_lt (v : Int) : ∀ c ∈ uw v, c < 256 := by
  unfold uw
  intro c hc
  dsimp only at hc
  repeat' split at hc
  all_goals (simp only [List.mem_cons, List.not_mem_nil, or_false] at hc; omega)
theorem uw_ne10 (v : Int) : 10 ∉ uw v := by
  unfold uw
  intro hc
  dsimp only at hc
  repeat' split at hc
  all_goals (simp only [List.mem_cons, List.not_mem_nil, or_false] at hc; omega)
theorem uw_ne (v : Int) : uw v ≠ [] := by
  unfold uw
  dsimp only
  repeat' split
  all_goals simp
theorem uw_len (v : Int) : (uw v).length ≤ 3 := by
  unfold uw
  dsimp only
  repeat' split
  all_goals simp

/-! hex signs -/
def H (d : Nat) : Nat := if d < 10 then 48 + d else 55 + d
def hx (b : Nat) : List Nat := [H (b / 16), H (b % 16)]
theorem H_lt {d : Nat} (h : d < 16) : 48 ≤ H d ∧ H d ≤ 70 := by unfold H; split <;> omega
/-- pairs with a blank between -/
def sp : List Nat → List Nat
  | [] => []
  | [b] => hx b
  | b :: c :: r => hx b ++ 32 :: sp (c :: r)

/-! split -/
theorem chainG_unique {s sub : PySem.Str} {hi : Nat} (hw : 1 ≤ sub.length) : ∀ {c1 c2 : List Nat} {a f1 f2 : Nat}, ChainG s sub hi a c1 f1 → ChainG s sub hi a c2 f2 → (∀ k, f1 ≤ k → ¬ At s sub hi k) → (∀ k, f2 ≤ k → ¬ At s sub hi k) → c1 = c2
  | [], [], _, _, _, _, _, _, _ => rfl
  | [], c :: r, a, f1, f2, h1, h2, t1, _ => by
    have e : f1 = a := h1
    subst e
    exact absurd h2.2.1 (t1 c h2.1)
  | c :: r, [], a, f1, f2, h1, h2, _, t2 => by
    have e : f2 = a := h2
    subst e
    exact absurd h1.2.1 (t2 c h1.1)
  | c :: r, d :: q, a, f1, f2, h1, h2, t1, t2 => by
    have e : c = d := by
      rcases Nat.lt_trichotomy c d with h | h | h
      · exact absurd h1.2.1 (h2.2.2.1 c h1.1 h)
      · exact h
      · exact absurd h2.2.1 (h1.2.2.1 d h2.1 h)
    subst e
    rw [chainG_unique hw h1.2.2.2 h2.2.2.2 t1 t2]

def mk (l : List Nat) : PySem.Str := ⟨l.toArray⟩
theorem mk_len (l : List Nat) : (mk l).length = l.length := by simp [mk, PySem.Str.length]
theorem at_iff (x y : List Nat) (k : Nat) : At (mk x) (mk y) (mk x).length k ↔ (k + y.length ≤ x.length ∧ (x.drop k).take y.length = y) := by
  unfold At
  rw [mk_len, mk_len, subAt_eq, mk_len]
  simp [mk]
theorem at_shift (p x y : List Nat) (k : Nat) : At (mk (p ++ x)) (mk y) (mk (p ++ x)).length (k + p.length) ↔ At (mk x) (mk y) (mk x).length k := by
  rw [at_iff, at_iff]
  have e : (p ++ x).drop (k + p.length) = x.drop k := by
    rw [Nat.add_comm, ← List.drop_drop, List.drop_left]
  rw [e, List.length_append]
  constructor
  · intro h; exact ⟨by omega, h.2⟩
  · intro h; exact ⟨by omega, h.2⟩
theorem chainG_shift (p x y : List Nat) : ∀ (cuts : List Nat) (a f : Nat), ChainG (mk x) (mk y) (mk x).length a cuts f → ChainG (mk (p ++ x)) (mk y) (mk (p ++ x)).length (a + p.length) (cuts.map (· + p.length)) (f + p.length)
  | [], a, f, h => by
    have e : f = a := h
    subst e
    rfl
  | c :: r, a, f, h => by
    refine ⟨by have := h.1; show a + p.length ≤ c + p.length; omega, (at_shift p x y c).mpr h.2.1, fun k h1 h2 hA => ?_, ?_⟩
    · obtain ⟨j, rfl⟩ : ∃ j, k = j + p.length := ⟨k - p.length, by omega⟩
      have h2' : j + p.length < c + p.length := h2
      exact h.2.2.1 j (by omega) (by omega) ((at_shift p x y j).mp hA)
    · have := chainG_shift p x y r (c + (mk y).length) f h.2.2.2
      rw [show c + p.length + (mk y).length = c + (mk y).length + p.length by omega]
      exact this
theorem sub_shift (p x : List Nat) (i j : Nat) : strSub (mk (p ++ x)) (i + p.length) (j + p.length) = strSub (mk x) i j := by
  apply PySem.Str.ext'
  apply Array.toList_inj.mp
  rw [strSub_toList, strSub_toList]
  show ((p ++ x).drop (i + p.length)).take _ = (x.drop i).take _
  rw [Nat.add_comm i, ← List.drop_drop, List.drop_left]
  congr 1
  omega
theorem parts_shift (p x : List Nat) (w : Nat) : ∀ (cuts : List Nat) (a : Nat), partsFrom (mk (p ++ x)) w (a + p.length) (cuts.map (· + p.length)) = partsFrom (mk x) w a cuts
  | [], a => by
    show [strSub (mk (p ++ x)) (a + p.length) (mk (p ++ x)).length] = [strSub (mk x) a (mk x).length]
    rw [mk_len, List.length_append, Nat.add_comm p.length, mk_len, sub_shift]
  | c :: r, a => by
    show strSub (mk (p ++ x)) (a + p.length) (c + p.length) :: partsFrom (mk (p ++ x)) w (c + p.length + w) (r.map (· + p.length)) = strSub (mk x) a c :: partsFrom (mk x) w (c + w) r
    rw [sub_shift, show c + p.length + w = c + w + p.length by omega, parts_shift p x w r (c + w)]
theorem sub_all (x : List Nat) : strSub (mk x) 0 (mk x).length = mk x := sub_whole (mk x)

theorem split_eq {x y : List Nat} (hk : Builtin.Str.strKind (mk y) = 1) (hy : 1 ≤ y.length) : Txt.split (mk x) (mk y) = partsFrom (mk x) y.length 0 (occurrences (mk x) (mk y) 0 (mk x).length ((mk x).length + 1)) := by
  have hx : 1 ≤ Builtin.Str.strKind (mk x) := by unfold Builtin.Str.strKind; split; exact Nat.le_refl _; split <;> omega
  obtain ⟨f, hc, ht⟩ := occ_tight (mk x) (mk y) (by rw [mk_len]; exact hy)
  have none : ∀ l, l = [] → [mk x] = partsFrom (mk x) y.length 0 l := by
    intro l hl; subst hl
    show [mk x] = [strSub (mk x) 0 (mk x).length]
    rw [sub_all]
  unfold Txt.split
  split
  · rename_i h
    apply none
    cases hl : occurrences (mk x) (mk y) 0 (mk x).length ((mk x).length + 1) with
    | nil => rfl
    | cons c r =>
      exfalso
      rw [hl] at hc
      have hA := (at_iff x y c).mp hc.2.1
      rw [hk] at h
      simp only [mk_len, Bool.or_eq_true, decide_eq_true_eq] at h
      omega
  · split
    · rename_i h
      apply none
      simpa using h
    · rw [partsBetween_eq, mk_len]
theorem split_last {x y : List Nat} (hk : Builtin.Str.strKind (mk y) = 1) (hy : 1 ≤ y.length) (hn : ∀ k, k + y.length ≤ x.length → (x.drop k).take y.length ≠ y) : Txt.split (mk x) (mk y) = [mk x] := by
  rw [split_eq hk hy]
  obtain ⟨f, hc, ht⟩ := occ_tight (mk x) (mk y) (by rw [mk_len]; exact hy)
  cases hl : occurrences (mk x) (mk y) 0 (mk x).length ((mk x).length + 1) with
  | nil =>
    show [strSub (mk x) 0 (mk x).length] = [mk x]
    rw [sub_all]
  | cons c r =>
    rw [hl] at hc
    have hA := (at_iff x y c).mp hc.2.1
    exact absurd hA.2 (hn c hA.1)
theorem split_cons {w r y : List Nat} (hk : Builtin.Str.strKind (mk y) = 1) (hy : 1 ≤ y.length) (hn : ∀ k, k < w.length → ((w ++ y ++ r).drop k).take y.length ≠ y) : Txt.split (mk (w ++ y ++ r)) (mk y) = mk w :: Txt.split (mk r) (mk y) := by
  rw [split_eq hk hy, split_eq hk hy]
  obtain ⟨f, hc, ht⟩ := occ_tight (mk (w ++ y ++ r)) (mk y) (by rw [mk_len]; exact hy)
  obtain ⟨g, hc', ht'⟩ := occ_tight (mk r) (mk y) (by rw [mk_len]; exact hy)
  have sh := chainG_shift (w ++ y) r y _ _ _ hc'
  have pl : (w ++ y).length = w.length + y.length := List.length_append
  have whole : ChainG (mk (w ++ y ++ r)) (mk y) (mk (w ++ y ++ r)).length 0 (w.length :: (occurrences (mk r) (mk y) 0 (mk r).length ((mk r).length + 1)).map (· + (w ++ y).length)) (g + (w ++ y).length) := by
    refine ⟨Nat.zero_le _, ?_, fun k _ h2 hA => hn k h2 ((at_iff _ _ _).mp hA).2, ?_⟩
    · rw [at_iff]
      refine ⟨by simp, ?_⟩
      rw [List.append_assoc, List.drop_left, List.take_left]
    · rw [mk_len]
      rw [Nat.zero_add, pl] at sh
      rw [pl]
      exact sh
  have tail : ∀ k, g + (w ++ y).length ≤ k → ¬ At (mk (w ++ y ++ r)) (mk y) (mk (w ++ y ++ r)).length k := by
    intro k h1 hA
    obtain ⟨j, rfl⟩ : ∃ j, k = j + (w ++ y).length := ⟨k - (w ++ y).length, by omega⟩
    exact ht' j (by omega) ((at_shift (w ++ y) r y j).mp hA)
  rw [chainG_unique (by rw [mk_len]; exact hy) hc whole ht tail]
  show strSub (mk (w ++ y ++ r)) 0 w.length :: partsFrom (mk (w ++ y ++ r)) y.length (w.length + y.length) _ = _
  have e1 : strSub (mk (w ++ y ++ r)) 0 w.length = mk w := by
    apply PySem.Str.ext'
    apply Array.toList_inj.mp
    rw [strSub_toList]
    show ((w ++ y ++ r).drop 0).take (w.length - 0) = w
    rw [List.drop_zero, Nat.sub_zero, List.append_assoc, List.take_left]
  rw [e1]
  have := parts_shift (w ++ y) r y.length (occurrences (mk r) (mk y) 0 (mk r).length ((mk r).length + 1)) 0
  rw [Nat.zero_add, pl] at this
  rw [pl, this]
end Mine
end

-- part P2
section
open PySem PySem.W PyProof.Rows PySem.Calls
set_option Elab.async false
set_option maxRecDepth 100000
namespace Mine
open Builtin Builtin.Str StrLaws

theorem hx_len (b : Nat) : (hx b).length = 2 := rfl
theorem sp_cons (b : Nat) {r : List Nat} (h : r ≠ []) : sp (b :: r) = hx b ++ 32 :: sp r := by
  cases r with
  | nil => exact absurd rfl h
  | cons c r => rfl
theorem sp_append : ∀ {a b : List Nat}, a ≠ [] → b ≠ [] → sp (a ++ b) = sp a ++ 32 :: sp b
  | [], _, h, _ => absurd rfl h
  | [x], b, _, hb => by
    show sp (x :: b) = hx x ++ 32 :: sp b
    exact sp_cons x hb
  | x :: y :: r, b, _, hb => by
    show sp (x :: (y :: r ++ b)) = (hx x ++ 32 :: sp (y :: r)) ++ 32 :: sp b
    rw [sp_cons x (by simp), sp_append (a := y :: r) (by simp) hb]
    simp
theorem H_inj {d e : Nat} (hd : d < 16) (he : e < 16) (h : H d = H e) : d = e := by
  unfold H at h
  split at h <;> split at h <;> omega
abbrev sepL : List Nat := [32, 48, 65, 32]
theorem sp_free : ∀ (bs r : List Nat) (k : Nat), (∀ b ∈ bs, b < 256 ∧ b ≠ 10) → k < (sp bs).length → ((sp bs ++ r).drop k).take 4 ≠ sepL
  | [], _, _, _, h => absurd h (Nat.not_lt_zero _)
  | [b], r, k, hb, h => by
    have hb' := hb b (.head _)
    have h1 := H_lt (d := b / 16) (by omega)
    have h2 := H_lt (d := b % 16) (by omega)
    have hk : k < 2 := h
    intro e
    rcases k with _ | _ | k
    · have := congrArg List.head? e
      simp [sp, hx] at this
      omega
    · have := congrArg List.head? e
      simp [sp, hx] at this
      omega
    · omega
  | b :: c :: t, r, k, hb, h => by
    have hb' := hb b (.head _)
    have hc' := hb c (.tail _ (.head _))
    have h1 := H_lt (d := b / 16) (by omega)
    have h2 := H_lt (d := b % 16) (by omega)
    intro e
    rcases k with _ | _ | _ | k
    · have := congrArg List.head? e
      simp [sp, hx] at this
      omega
    · have := congrArg List.head? e
      simp [sp, hx] at this
      omega
    · have h3 : sp (c :: t) ++ r = H (c / 16) :: H (c % 16) :: ((sp (c :: t) ++ r).drop 2) := by
        cases t with
        | nil => simp [sp, hx]
        | cons d t => simp [sp, hx]
      have e' : (32 :: (sp (c :: t) ++ r)).take 4 = sepL := by
        have : (sp (b :: c :: t) ++ r).drop 2 = 32 :: (sp (c :: t) ++ r) := by
          show ((hx b ++ 32 :: sp (c :: t)) ++ r).drop 2 = _
          simp [hx]
        rw [← this]; exact e
      rw [h3] at e'
      simp only [List.take_succ_cons, sepL, List.cons.injEq, true_and] at e'
      have q1 := H_inj (d := c / 16) (e := 0) (by omega) (by omega) (by rw [e'.1]; rfl)
      have q2 := H_inj (d := c % 16) (e := 10) (by omega) (by omega) (by rw [e'.2.1]; rfl)
      omega
    · have e' : ((sp (c :: t) ++ r).drop k).take 4 = sepL := by
        have : (sp (b :: c :: t) ++ r).drop (k + 1 + 1 + 1) = (sp (c :: t) ++ r).drop k := by
          show ((hx b ++ 32 :: sp (c :: t)) ++ r).drop _ = _
          simp [hx]
        rw [← this]; exact e
      refine sp_free (c :: t) r k (fun x hx => hb x (.tail _ hx)) ?_ e'
      have : (sp (b :: c :: t)).length = (sp (c :: t)).length + 3 := by
        show (hx b ++ 32 :: sp (c :: t)).length = _
        simp [hx]
      omega

/-- the page: the words with 10 between -/
def pg : List (List Nat) → List Nat
  | [] => []
  | [u] => u
  | u :: v :: r => u ++ 10 :: pg (v :: r)
theorem pg_ne : ∀ {us : List (List Nat)}, us ≠ [] → (∀ u ∈ us, u ≠ []) → pg us ≠ []
  | [], h, _ => absurd rfl h
  | [u], _, h => h u (.head _)
  | u :: v :: r, _, _ => by show u ++ 10 :: pg (v :: r) ≠ []; simp
theorem kind_sep : Builtin.Str.strKind (mk sepL) = 1 := by decide +kernel
theorem kind_blank : Builtin.Str.strKind (mk [32]) = 1 := by decide +kernel
def Good (u : List Nat) : Prop := u ≠ [] ∧ ∀ b ∈ u, b < 256 ∧ b ≠ 10
theorem split_page : ∀ {us : List (List Nat)}, us ≠ [] → (∀ u ∈ us, Good u) → Txt.split (mk (sp (pg us))) (mk sepL) = us.map fun u => mk (sp u)
  | [], h, _ => absurd rfl h
  | [u], _, hg => by
    show Txt.split (mk (sp u)) (mk sepL) = [mk (sp u)]
    refine split_last kind_sep (by decide) fun k hk => ?_
    have := sp_free u [] k (hg u (.head _)).2 (by simp only [sepL, List.length_cons, List.length_nil] at hk; omega)
    rw [List.append_nil] at this
    exact this
  | u :: v :: r, _, hg => by
    have hu := hg u (.head _)
    have hne : pg (v :: r) ≠ [] := pg_ne (by simp) fun x hx => (hg x (.tail _ hx)).1
    have e : sp (pg (u :: v :: r)) = sp u ++ sepL ++ sp (pg (v :: r)) := by
      show sp (u ++ 10 :: pg (v :: r)) = _
      rw [sp_append hu.1 (by simp), sp_cons 10 hne]
      show _ = sp u ++ [32, 48, 65, 32] ++ _
      simp [hx, H]
    rw [e, split_cons kind_sep (by decide) (fun k hk => by rw [List.append_assoc]; exact sp_free u _ k hu.2 hk), split_page (by simp) fun x hx => hg x (.tail _ hx)]
    rfl

/-- a word without its blanks -/
def flat (u : List Nat) : List Nat := u.flatMap hx
theorem hx_no {b : Nat} (h : b < 256) : ∀ (k : Nat) (r : List Nat), k < 2 → ((hx b ++ r).drop k).take 1 ≠ [32] := by
  have h1 := H_lt (d := b / 16) (by omega)
  have h2 := H_lt (d := b % 16) (by omega)
  intro k r hk e
  rcases k with _ | _ | k
  · simp [hx] at e; omega
  · simp [hx] at e; omega
  · omega
theorem split_blank : ∀ {u : List Nat}, u ≠ [] → (∀ b ∈ u, b < 256) → Txt.split (mk (sp u)) (mk [32]) = u.map fun b => mk (hx b)
  | [], h, _ => absurd rfl h
  | [b], _, hg => by
    show Txt.split (mk (hx b)) (mk [32]) = [mk (hx b)]
    refine split_last kind_blank (by decide) fun k hk => ?_
    have hk' : k + 1 ≤ 2 := hk
    have := hx_no (hg b (.head _)) k [] (by omega)
    rw [List.append_nil] at this
    exact this
  | b :: c :: r, _, hg => by
    have e : sp (b :: c :: r) = hx b ++ [32] ++ sp (c :: r) := by
      show hx b ++ 32 :: sp (c :: r) = _
      simp
    rw [e, split_cons kind_blank (by decide) (fun k hk => by rw [List.append_assoc]; exact hx_no (hg b (.head _)) k _ hk), split_blank (by simp) fun x hx => hg x (.tail _ hx)]
    rfl
theorem join_empty : ∀ (ls : List (List Nat)), PySem.Str.join (mk []) (ls.map mk) = mk ls.flatten
  | [] => rfl
  | [x] => by simp [PySem.Str.join]
  | x :: y :: r => by
    have ih := join_empty (y :: r)
    show mk x ++ mk [] ++ PySem.Str.join (mk []) ((y :: r).map mk) = _
    rw [ih]
    apply PySem.Str.ext'
    apply Array.toList_inj.mp
    simp [mk, PySem.Str.cps_append]
theorem replace_word {u : List Nat} (h : u ≠ []) (hg : ∀ b ∈ u, b < 256) : Txt.replace (mk (sp u)) (mk [32]) (mk []) = mk (flat u) := by
  have := replace_one (mk (sp u)) (mk []) 32
  show Txt.replace (mk (sp u)) ⟨#[32]⟩ (mk []) = _
  rw [this]
  show PySem.Str.join (mk []) (Txt.split (mk (sp u)) (mk [32])) = _
  rw [split_blank h hg]
  have := join_empty (u.map hx)
  rw [List.map_map] at this
  exact this

/-- the blanks' join, as the library says it -/
theorem join_sp : ∀ (u : List Nat), Txt.join (mk [32]) (u.map fun b => mk (hx b)) = mk (sp u) := by
  intro u
  show glued (mk [32]) _ = _
  rw [glued_eq_join]
  induction u with
  | nil => rfl
  | cons b r ih =>
    cases r with
    | nil => rfl
    | cons c r =>
      show mk (hx b) ++ mk [32] ++ PySem.Str.join (mk [32]) ((c :: r).map fun b => mk (hx b)) = _
      rw [ih]
      apply PySem.Str.ext'
      apply Array.toList_inj.mp
      show _ = hx b ++ 32 :: sp (c :: r)
      simp [mk, PySem.Str.cps_append]
theorem join_pg : ∀ (us : List (List Nat)), Txt.join (mk [10]) (us.map mk) = mk (pg us) := by
  intro us
  show glued (mk [10]) _ = _
  rw [glued_eq_join]
  induction us with
  | nil => rfl
  | cons b r ih =>
    cases r with
    | nil => rfl
    | cons c r =>
      show mk b ++ mk [10] ++ PySem.Str.join (mk [10]) ((c :: r).map mk) = _
      rw [ih]
      apply PySem.Str.ext'
      apply Array.toList_inj.mp
      show _ = b ++ 10 :: pg (c :: r)
      simp [mk, PySem.Str.cps_append]
theorem join_flat (ls : List (List Nat)) : Txt.join (mk []) (ls.map mk) = mk ls.flatten := by
  show glued (mk []) _ = _
  rw [glued_eq_join, join_empty]

/-! octets -/
def B (l : List Nat) : Array UInt8 := (l.map Nat.toUInt8).toArray
theorem hexArr_eq (b : Array UInt8) : hexArr b = (b.toList.flatMap fun c => [Bytes.hexDigit (c.toNat / 16), Bytes.hexDigit (c.toNat % 16)]).toArray := by
  unfold hexArr
  have key : ∀ (l : List UInt8) (k : Nat) (acc : Array Nat), (l.zipIdx k).foldl (fun (out : Array Nat) (p : UInt8 × Nat) => (out.push (Bytes.hexDigit (p.1.toNat / 16))).push (Bytes.hexDigit (p.1.toNat % 16))) acc
      = acc ++ (l.flatMap fun c => [Bytes.hexDigit (c.toNat / 16), Bytes.hexDigit (c.toNat % 16)]).toArray := by
    intro l
    induction l with
    | nil => intro k acc; simp
    | cons c l ih =>
      intro k acc
      rw [List.zipIdx_cons, List.foldl_cons, ih]
      apply Array.toList_inj.mp
      simp
  rw [key]
  simp
theorem digit_up : ∀ d : Fin 16, Bytes.toUpper (Bytes.hexDigit d.val).toUInt8 = (H d.val).toUInt8 := by decide +kernel
theorem digit_lt : ∀ d : Fin 16, Bytes.hexDigit d.val < 128 := by decide +kernel
theorem hexArr_size (b : Array UInt8) : (hexArr b).size = 2 * b.size := by
  rw [hexArr_eq]
  have : ∀ l : List UInt8, (l.flatMap fun c => [Bytes.hexDigit (c.toNat / 16), Bytes.hexDigit (c.toNat % 16)]).length = 2 * l.length := by
    intro l
    induction l with
    | nil => rfl
    | cons c l ih => rw [List.flatMap_cons, List.length_append, ih]; simp; omega
  rw [List.size_toArray, this, Array.length_toList]
theorem hexArr_lt (b : Array UInt8) : ∀ c ∈ (hexArr b).toList, c < 128 := by
  rw [hexArr_eq]
  intro c hc
  simp only [List.mem_flatMap] at hc
  obtain ⟨x, _, hx⟩ := hc
  have hx' := x.toNat_lt
  simp only [List.mem_cons, List.not_mem_nil, or_false] at hx
  rcases hx with rfl | rfl
  · exact digit_lt ⟨x.toNat / 16, by omega⟩
  · exact digit_lt ⟨x.toNat % 16, by omega⟩
def nats (b : Array UInt8) : List Nat := b.toList.map UInt8.toNat
theorem b16_eq (b : Array UInt8) : (((hexArr b).map fun c => c.toUInt8).toList.map Bytes.toUpper).toArray = B (flat (nats b)) := by
  unfold B flat nats
  congr 1
  rw [hexArr_eq, Array.toList_map]
  generalize b.toList = l
  induction l with
  | nil => rfl
  | cons c l ih =>
    simp only [List.flatMap_cons, List.map_cons, List.map_append] at ih ⊢
    rw [ih]
    have hx' := c.toNat_lt
    have h1 := digit_up ⟨c.toNat / 16, by omega⟩
    have h2 := digit_up ⟨c.toNat % 16, by omega⟩
    simp only at h1 h2
    simp only [List.map_cons, List.map_nil, hx, h1, h2]
theorem nats_B {l : List Nat} (h : ∀ b ∈ l, b < 256) : nats (B l) = l := by
  unfold nats B
  show (l.map Nat.toUInt8).map UInt8.toNat = l
  rw [List.map_map]
  refine (List.map_congr_left (g := _root_.id) fun b hb => ?_).trans (List.map_id _)
  show (Nat.toUInt8 b).toNat = b
  have := h b hb
  show b % 256 = b
  omega
theorem B_size (l : List Nat) : (B l).size = l.length := by simp [B]
theorem flat_len (u : List Nat) : (flat u).length = 2 * u.length := by
  unfold flat
  induction u with
  | nil => rfl
  | cons b r ih => rw [List.flatMap_cons, List.length_append, ih, hx_len]; simp; omega
theorem flat_lt {u : List Nat} (h : ∀ b ∈ u, b < 256) : ∀ c ∈ flat u, 48 ≤ c ∧ c ≤ 70 := by
  intro c hc
  unfold flat at hc
  obtain ⟨b, hb, hc⟩ := List.mem_flatMap.mp hc
  have := h b hb
  simp only [hx, List.mem_cons, List.not_mem_nil, or_false] at hc
  rcases hc with rfl | rfl
  · exact H_lt (by omega)
  · exact H_lt (by omega)
end Mine
end

-- part P3b
section
open PySem PySem.W PyProof.Rows PySem.Calls
set_option maxRecDepth 100000
set_option Elab.async false
namespace Mine
open Builtin
def uwN (r : Nat) : List Nat :=
  let rep := if 32 ≤ r % 128 ∧ r % 128 ≤ 126 then [r % 128] else if r % 128 = 127 then [94, 159] else [94, r % 128 + 64]
  if 128 ≤ r then 33 :: rep else rep
theorem uw_of {c : Int} (h : c ≠ 127) : uw c = uwN (c % 256).toNat := by
  unfold uw uwN
  dsimp only
  rw [if_neg h]
  have e : (c % 128).toNat = (c % 256).toNat % 128 := by omega
  have e1 : (32 ≤ c % 128 ∧ c % 128 ≤ 126) ↔ (32 ≤ (c % 256).toNat % 128 ∧ (c % 256).toNat % 128 ≤ 126) := by omega
  have e2 : (c % 128 = 127) ↔ ((c % 256).toNat % 128 = 127) := by omega
  have e3 : (128 ≤ c % 256) ↔ (128 ≤ (c % 256).toNat) := by omega
  simp only [e, e1, e2, e3]
theorem uw_127 : uw 127 = [94, 63] := by decide +kernel
theorem find_fin : ∀ d : Fin 16, Txt.find (PySem.Str.ofString "0123456789ABCDEF") (mk [H d.val]) = d.val := by decide +kernel
theorem find_H {d : Nat} (h : d < 16) : Txt.find (PySem.Str.ofString "0123456789ABCDEF") (mk [H d]) = (d : Int) := find_fin ⟨d, h⟩
theorem mk_beq (a b : List Nat) : (mk a == mk b) = decide (a = b) := by
  by_cases h : a = b
  · subst h; rw [decide_eq_true rfl]; exact beq_self_eq_true _
  · rw [decide_eq_false h]
    apply beq_eq_false_iff_ne.mpr
    intro e
    apply h
    have := congrArg (fun s : PySem.Str => s.cps.toList) e
    exact this
theorem slice_tail (a b : Nat) (l : List Nat) : Txt.slice (mk (a :: b :: l)) (some 2) none = mk l := by
  show StrLaws.sliceText (mk (a :: b :: l)) (some 2) none = _
  rw [StrLaws.sliceText_from ⟨by decide, by show (2 : Int) ≤ (((a :: b :: l).length : Nat) : Int); simp only [List.length_cons]; omega⟩]
  show mk (((a :: b :: l).drop 2).take ((((a :: b :: l).length : Nat) : Int) - 2).toNat) = _
  have e : ((((a :: b :: l).length : Nat) : Int) - 2).toNat = l.length := by simp only [List.length_cons]; omega
  rw [e]
  show mk (l.take l.length) = _
  rw [List.take_length]
theorem slice_head (a b : Nat) (l : List Nat) : Txt.slice (mk (a :: b :: l)) none (some 2) = mk [a, b] := by
  show StrLaws.sliceText (mk (a :: b :: l)) none (some 2) = _
  rw [StrLaws.sliceText_to ⟨by decide, by show (2 : Int) ≤ (((a :: b :: l).length : Nat) : Int); simp only [List.length_cons]; omega⟩]
  rfl
theorem slice_m2 (l : List Nat) (a b : Nat) : Txt.slice (mk (l ++ [a, b])) (some (-2)) (some (-1)) = mk [a] := by
  have hl : (mk (l ++ [a, b])).length = l.length + 2 := by rw [mk_len, List.length_append]; rfl
  show StrLaws.sliceText (mk (l ++ [a, b])) (some (-2)) (some (-1)) = _
  rw [StrLaws.sliceText_neg_hi _ _ (by decide) (by rw [hl]; omega), StrLaws.sliceText_neg_lo _ _ (by decide) (by rw [hl]; omega)]
  rw [StrLaws.sliceText_plain ⟨by rw [hl]; omega, by omega, by rw [hl]; show _ ≤ (((l ++ [a, b]).length : Nat) : Int); rw [List.length_append]; simp only [List.length_cons, List.length_nil]; omega⟩, hl]
  have e1 : (-2 + ((l.length + 2 : Nat) : Int)).toNat = l.length := by omega
  have e2 : (-1 + ((l.length + 2 : Nat) : Int) - (-2 + ((l.length + 2 : Nat) : Int))).toNat = 1 := by omega
  rw [e1, e2]
  show mk (((l ++ [a, b]).drop l.length).take 1) = _
  rw [List.drop_left]
  rfl
theorem slice_m1 (l : List Nat) (a b : Nat) : Txt.slice (mk (l ++ [a, b])) (some (-1)) none = mk [b] := by
  have hl : (mk (l ++ [a, b])).length = l.length + 2 := by rw [mk_len, List.length_append]; rfl
  show StrLaws.sliceText (mk (l ++ [a, b])) (some (-1)) none = _
  rw [StrLaws.sliceText_from_neg (by decide) (by rw [hl]; omega), hl]
  have e1 : (-1 + ((l.length + 2 : Nat) : Int)).toNat = l.length + 1 := by omega
  have e2 : ((((mk (l ++ [a, b])).cps.toList.length : Nat) : Int) - (-1 + ((l.length + 2 : Nat) : Int))).toNat = 1 := by
    show ((((l ++ [a, b]).length : Nat) : Int) - (-1 + ((l.length + 2 : Nat) : Int))).toNat = 1
    rw [List.length_append]; simp only [List.length_cons, List.length_nil]; omega
  rw [e1, e2]
  show mk (((l ++ [a, b]).drop (l.length + 1)).take 1) = _
  have e3 : (l ++ [a, b]).drop (l.length + 1) = [b] := by
    rw [← List.drop_drop, List.drop_left]; rfl
  rw [e3]
  rfl
theorem O_pair (l : List Nat) {b : Nat} (h : b < 256) : 16 * Txt.find (PySem.Str.ofString "0123456789ABCDEF") (Txt.slice (mk (l ++ hx b)) (some (-2)) (some (-1))) + Txt.find (PySem.Str.ofString "0123456789ABCDEF") (Txt.slice (mk (l ++ hx b)) (some (-1)) none) = (b : Int) := by
  unfold hx
  rw [slice_m2, slice_m1, find_H (by omega), find_H (by omega)]
  omega
theorem c_21 : PySem.Str.ofString "21" = mk [50, 49] := by decide +kernel
theorem c_5E : PySem.Str.ofString "5E" = mk [53, 69] := by decide +kernel
theorem c_3F : PySem.Str.ofString "5E3F" = mk [53, 69, 51, 70] := by decide +kernel
theorem c_9F : PySem.Str.ofString "5E9F" = mk [53, 69, 57, 70] := by decide +kernel
theorem hx_ne {b : Nat} (hb : b < 256) {a : Nat} (ha : a < 256) (h : a ≠ b) : hx b ≠ hx a := by
  intro e
  unfold hx at e
  simp only [List.cons.injEq, and_true] at e
  have h1 := H_inj (d := b / 16) (e := a / 16) (by omega) (by omega) e.1
  have h2 := H_inj (d := b % 16) (e := a % 16) (by omega) (by omega) e.2
  omega
section
variable {w : World} {loose : List Str} {mean : ExcName → Option Value} {mg mb : Str → Option Value} {news : List (Addr × Obj)} {t : Tok}
theorem cast_claim {prog : Program} {K : Frag} {p : Program} {f : Addr} {vs : List Value} {n m : Int} (e : n = m) (h : Claim prog w K p loose mean mg mb f news vs (fun t => .int n t)) : Claim prog w K p loose mean mg mb f news vs (fun t => .int m t) := e ▸ h
theorem flat_2 (b : Nat) : flat [94, b] = 53 :: 69 :: hx b := rfl
theorem flat_1 (b : Nat) : flat [b] = hx b := by unfold flat; simp
theorem flat_h (l : List Nat) : flat (33 :: l) = 50 :: 49 :: flat l := rfl
theorem eq3F_1 (q : Nat) : (mk (hx q) == PySem.Str.ofString "5E3F") = false := by rw [c_3F, mk_beq]; exact decide_eq_false (by simp [hx])
theorem eq9F_1 (q : Nat) : (mk (hx q) == PySem.Str.ofString "5E9F") = false := by rw [c_9F, mk_beq]; exact decide_eq_false (by simp [hx])
theorem eq3F_2 {b : Nat} (hb : b < 256) (h : b ≠ 63) : (mk (53 :: 69 :: hx b) == PySem.Str.ofString "5E3F") = false := by
  rw [c_3F, mk_beq]
  refine decide_eq_false fun e => hx_ne hb (a := 63) (by decide) (fun q => h q.symm) ?_
  simpa [hx, H] using e
theorem eq9F_2 {b : Nat} (hb : b < 256) (h : b ≠ 159) : (mk (53 :: 69 :: hx b) == PySem.Str.ofString "5E9F") = false := by
  rw [c_9F, mk_beq]
  refine decide_eq_false fun e => hx_ne hb (a := 159) (by decide) (fun q => h q.symm) ?_
  simpa [hx, H] using e
theorem eq3F_t : (mk (53 :: 69 :: hx 63) == PySem.Str.ofString "5E3F") = true := by rw [c_3F, mk_beq]; exact decide_eq_true rfl
theorem eq9F_t : (mk (53 :: 69 :: hx 159) == PySem.Str.ofString "5E9F") = true := by rw [c_9F, mk_beq]; exact decide_eq_true rfl
theorem eq21_f (l : List Nat) : (Txt.slice (mk (53 :: 69 :: l)) none (some 2) == PySem.Str.ofString "21") = false := by rw [slice_head, c_21, mk_beq]; exact decide_eq_false (by decide)
theorem eq21_t (l : List Nat) : (Txt.slice (mk (50 :: 49 :: l)) none (some 2) == PySem.Str.ofString "21") = true := by rw [slice_head, c_21, mk_beq]; exact decide_eq_true rfl
theorem eq5E_t (l : List Nat) : (Txt.slice (mk (53 :: 69 :: l)) none (some 2) == PySem.Str.ofString "5E") = true := by rw [slice_head, c_5E, mk_beq]; exact decide_eq_true rfl
theorem len_mk (l : List Nat) : (((mk l).length : Nat) : Int) = ((l.length : Nat) : Int) := by rw [mk_len]

theorem w_f1 {q : Nat} (h1 : 32 ≤ q) (h2 : q ≤ 126) : Claim PySem.Challenge.rw_mj0034_01.row.prog w (Mine.hd.heap_39 w.params) Mine.hd.view_39 loose mean mg mb 72 news [.str (mk (hx q)) t] (fun t => .int (q : Int) t) := by
  have hO := O_pair [] (b := q) (by omega)
  rw [List.nil_append] at hO
  refine cast_claim ?_ (oct_f2 (by rw [mk_len, hx_len]; decide) (by rw [len_mk, hx_len]; decide) (eq3F_1 q) (eq9F_1 q) (by rw [len_mk, hx_len]; rfl) (by rw [hO]; omega) (by rw [hO]; omega))
  rw [hO]; omega
theorem w_f2 {b : Nat} (h1 : 64 ≤ b) (h2 : b ≤ 95) : Claim PySem.Challenge.rw_mj0034_01.row.prog w (Mine.hd.heap_39 w.params) Mine.hd.view_39 loose mean mg mb 72 news [.str (mk (53 :: 69 :: hx b)) t] (fun t => .int ((b : Int) - 64) t) := by
  have hO := O_pair [53, 69] (b := b) (by omega)
  have hO' : 16 * Txt.find (PySem.Str.ofString "0123456789ABCDEF") (Txt.slice (mk (53 :: 69 :: hx b)) (some (-2)) (some (-1))) + Txt.find (PySem.Str.ofString "0123456789ABCDEF") (Txt.slice (mk (53 :: 69 :: hx b)) (some (-1)) none) = (b : Int) := hO
  refine cast_claim ?_ (oct_f4 (by rw [mk_len]; simp [hx]) (by rw [len_mk]; simp [hx]) (eq21_f _) (eq3F_2 (by omega) (by omega)) (eq9F_2 (by omega) (by omega)) (by rw [len_mk]; simp [hx]) (eq5E_t _) (by rw [hO']; omega) (by rw [hO']; omega))
  rw [hO']; omega
theorem w_f9 : Claim PySem.Challenge.rw_mj0034_01.row.prog w (Mine.hd.heap_39 w.params) Mine.hd.view_39 loose mean mg mb 72 news [.str (mk (53 :: 69 :: hx 159)) t] (fun t => .int 127 t) :=
  cast_claim rfl (oct_f9 (by rw [mk_len]; simp [hx]) (by rw [len_mk]; simp [hx]) (eq21_f _) (eq3F_2 (by decide) (by decide)) eq9F_t)
theorem w_f3 : Claim PySem.Challenge.rw_mj0034_01.row.prog w (Mine.hd.heap_39 w.params) Mine.hd.view_39 loose mean mg mb 72 news [.str (mk (53 :: 69 :: hx 63)) t] (fun t => .int 127 t) :=
  oct_f3 (by rw [mk_len]; simp [hx]) (by rw [len_mk]; simp [hx]) (eq21_f _) eq3F_t
theorem w_t1 {q : Nat} (h1 : 32 ≤ q) (h2 : q ≤ 126) : Claim PySem.Challenge.rw_mj0034_01.row.prog w (Mine.hd.heap_39 w.params) Mine.hd.view_39 loose mean mg mb 72 news [.str (mk (50 :: 49 :: hx q)) t] (fun t => .int ((q : Int) + 128) t) := by
  have hO := O_pair [] (b := q) (by omega)
  rw [List.nil_append] at hO
  have hs := slice_tail 50 49 (hx q)
  refine cast_claim ?_ (oct_t2 (by rw [mk_len]; simp [hx]) (by rw [len_mk]; simp [hx]) (eq21_t _) (by rw [hs]; exact eq3F_1 q) (by rw [hs]; exact eq9F_1 q) (by rw [hs, len_mk, hx_len]; rfl) (by rw [hs, hO]; omega) (by rw [hs, hO]; omega))
  rw [hs, hO]
theorem w_t2 {b : Nat} (h1 : 64 ≤ b) (h2 : b ≤ 95) : Claim PySem.Challenge.rw_mj0034_01.row.prog w (Mine.hd.heap_39 w.params) Mine.hd.view_39 loose mean mg mb 72 news [.str (mk (50 :: 49 :: 53 :: 69 :: hx b)) t] (fun t => .int ((b : Int) - 64 + 128) t) := by
  have hO := O_pair [53, 69] (b := b) (by omega)
  have hO' : 16 * Txt.find (PySem.Str.ofString "0123456789ABCDEF") (Txt.slice (mk (53 :: 69 :: hx b)) (some (-2)) (some (-1))) + Txt.find (PySem.Str.ofString "0123456789ABCDEF") (Txt.slice (mk (53 :: 69 :: hx b)) (some (-1)) none) = (b : Int) := hO
  have hs := slice_tail 50 49 (53 :: 69 :: hx b)
  refine cast_claim ?_ (oct_t4 (by rw [mk_len]; simp [hx]) (by rw [len_mk]; simp [hx]) (eq21_t _) (by rw [hs]; exact eq3F_2 (by omega) (by omega)) (by rw [hs]; exact eq9F_2 (by omega) (by omega)) (by rw [hs, len_mk]; simp [hx]) (by rw [hs]; exact eq5E_t _) (by rw [hs, hO']; omega) (by rw [hs, hO']; omega))
  rw [hs, hO']
theorem w_t9 : Claim PySem.Challenge.rw_mj0034_01.row.prog w (Mine.hd.heap_39 w.params) Mine.hd.view_39 loose mean mg mb 72 news [.str (mk (50 :: 49 :: 53 :: 69 :: hx 159)) t] (fun t => .int 255 t) := by
  have hs := slice_tail 50 49 (53 :: 69 :: hx 159)
  exact cast_claim rfl (oct_t9 (by rw [mk_len]; simp [hx]) (by rw [len_mk]; simp [hx]) (eq21_t _) (by rw [hs]; exact eq3F_2 (by decide) (by decide)) (by rw [hs]; exact eq9F_t))

theorem c_octet {c : Int} : Claim PySem.Challenge.rw_mj0034_01.row.prog w (Mine.hd.heap_39 w.params) Mine.hd.view_39 loose mean mg mb 72 news [.str (mk (flat (uw c))) t] (fun t => .int (c % 256) t) := by
  by_cases h : c = 127
  · subst h
    rw [uw_127, flat_2]
    exact w_f3
  · rw [uw_of h]
    have hr : ((c % 256).toNat : Int) = c % 256 := by omega
    generalize hrr : (c % 256).toNat = r at *
    have hr256 : r < 256 := by omega
    rw [← hr]
    unfold uwN
    dsimp only
    by_cases hh : 128 ≤ r
    · rw [if_pos hh]
      by_cases h1 : 32 ≤ r % 128 ∧ r % 128 ≤ 126
      · rw [if_pos h1, flat_h, flat_1]
        exact cast_claim (by omega) (w_t1 h1.1 h1.2)
      · rw [if_neg h1]
        by_cases h2 : r % 128 = 127
        · rw [if_pos h2, flat_h, flat_2]
          exact cast_claim (by omega) w_t9
        · rw [if_neg h2, flat_h, flat_2]
          exact cast_claim (by omega) (w_t2 (b := r % 128 + 64) (by omega) (by omega))
    · rw [if_neg hh]
      by_cases h1 : 32 ≤ r % 128 ∧ r % 128 ≤ 126
      · rw [if_pos h1, flat_1]
        exact cast_claim (by omega) (w_f1 h1.1 h1.2)
      · rw [if_neg h1]
        by_cases h2 : r % 128 = 127
        · rw [if_pos h2, flat_2]
          exact cast_claim (by omega) w_f9
        · rw [if_neg h2, flat_2]
          exact cast_claim (by omega) (w_f2 (b := r % 128 + 64) (by omega) (by omega))
end
theorem word_eq (c : Int) : (mk (flat (uw c)) == PySem.Str.ofString "5E3F") = decide (c = 127) := by
  by_cases h : c = 127
  · subst h; rw [uw_127, flat_2, eq3F_t]; rfl
  · rw [uw_of h, decide_eq_false h]
    generalize hrr : (c % 256).toNat = r
    have hr256 : r < 256 := by omega
    unfold uwN
    dsimp only
    have hlen : ∀ l : List Nat, (mk (50 :: 49 :: l) == PySem.Str.ofString "5E3F") = false := fun l => by rw [c_3F, mk_beq]; exact decide_eq_false (by simp)
    by_cases hh : 128 ≤ r
    · rw [if_pos hh, flat_h]; exact hlen _
    · rw [if_neg hh]
      by_cases h1 : 32 ≤ r % 128 ∧ r % 128 ≤ 126
      · rw [if_pos h1, flat_1]; exact eq3F_1 _
      · rw [if_neg h1]
        by_cases h2 : r % 128 = 127
        · rw [if_pos h2, flat_2]; exact eq3F_2 (by decide) (by decide)
        · rw [if_neg h2, flat_2]; exact eq3F_2 (by omega) (by omega)
end Mine
end

-- part C1b
section
open PySem PySem.W PyProof.Rows PySem.Calls
set_option Elab.async false
set_option maxRecDepth 100000
namespace Mine
theorem ucW_127 {v : Int} (h : v = 127) (h1 : Builtin.bitAnd v 128 ≠ 0) : PySem.Str.ofString "!" ++ PySem.Str.ofString "^?" = ucW v := by unfold ucW; dsimp only; rw [if_pos h1, if_pos h]
theorem ucW_127' {v : Int} (h : v = 127) (h1 : Builtin.bitAnd v 128 = 0) : PySem.Str.ofString "^?" = ucW v := by unfold ucW; dsimp only; rw [if_neg (by rw [h1]; exact fun q => q rfl), if_pos h]
theorem ucW_p {v : Int} (h : v ≠ 127) (ha : 32 ≤ Builtin.bitAnd v 127) (hb : Builtin.bitAnd v 127 ≤ 126) (h1 : Builtin.bitAnd v 128 ≠ 0) : PySem.Str.ofString "!" ++ (⟨#[(Builtin.bitAnd v 127).toNat]⟩ : PySem.Str) = ucW v := by
  unfold ucW; dsimp only; rw [if_pos h1, if_neg h, if_pos ⟨ha, hb⟩]
theorem ucW_p' {v : Int} (h : v ≠ 127) (ha : 32 ≤ Builtin.bitAnd v 127) (hb : Builtin.bitAnd v 127 ≤ 126) (h1 : Builtin.bitAnd v 128 = 0) : (⟨#[(Builtin.bitAnd v 127).toNat]⟩ : PySem.Str) = ucW v := by
  unfold ucW; dsimp only; rw [if_neg (by rw [h1]; exact fun q => q rfl), if_neg h, if_pos ⟨ha, hb⟩]
theorem ucW_c {v : Int} (h : v ≠ 127) (hn : ¬ (32 ≤ Builtin.bitAnd v 127 ∧ Builtin.bitAnd v 127 ≤ 126)) (h1 : Builtin.bitAnd v 128 ≠ 0) :
    PySem.Str.ofString "!" ++ (PySem.Str.ofString "^" ++ (⟨#[(Builtin.bitOr (Builtin.bitAnd v 127) 32 + 32).toNat]⟩ : PySem.Str)) = ucW v := by
  unfold ucW; dsimp only; rw [if_pos h1, if_neg h, if_neg hn]
theorem ucW_c' {v : Int} (h : v ≠ 127) (hn : ¬ (32 ≤ Builtin.bitAnd v 127 ∧ Builtin.bitAnd v 127 ≤ 126)) (h1 : Builtin.bitAnd v 128 = 0) :
    (PySem.Str.ofString "^" ++ (⟨#[(Builtin.bitOr (Builtin.bitAnd v 127) 32 + 32).toNat]⟩ : PySem.Str)) = ucW v := by
  unfold ucW; dsimp only; rw [if_neg (by rw [h1]; exact fun q => q rfl), if_neg h, if_neg hn]
theorem or_bound (v : Int) : 0 ≤ Builtin.bitOr (Builtin.bitAnd v 127) 32 ∧ Builtin.bitOr (Builtin.bitAnd v 127) 32 ≤ 127 := by
  rw [bitAnd_m7, bitOr_32' (by omega) (by omega)]
  split <;> omega
set_option maxHeartbeats 8000000 in
theorem c_unctrl {w : World} {loose : List Str} {mean : ExcName → Option Value} {mg mb : Str → Option Value} {news : List (Addr × Obj)} {v : Int} {t : Tok} :
    Claim PySem.Challenge.rw_mj0034_01.row.prog w (Mine.hd.heap_39 w.params) Mine.hd.view_39 loose mean mg mb 42 news [.int v t] (fun t => .str (ucW v) t) := by
  k_fill
  dsimp only [Claim]
  intros
  rename_i hret
  obtain ⟨hb0, hb1⟩ := or_bound v
  refine wpAny_call ?_
  k_dflt cell_enter
  k_steps
  all_goals first
    | exact cb_retS hret (ucW_127 (by assumption) (by assumption)) (by assumption) (by assumption)
    | exact cb_retS hret (ucW_127' (by assumption) (by assumption)) (by assumption) (by assumption)
    | exact cb_retS hret (ucW_p (by assumption) (by assumption) (by assumption) (by assumption)) (by assumption) (by assumption)
    | exact cb_retS hret (ucW_p' (by assumption) (by assumption) (by assumption) (by assumption)) (by assumption) (by assumption)
    | exact cb_retS hret (ucW_c (by assumption) (by omega) (by assumption)) (by assumption) (by assumption)
    | exact cb_retS hret (ucW_c' (by assumption) (by omega) (by assumption)) (by assumption) (by assumption)
set_option maxHeartbeats 8000000 in
theorem c_unctrl_s {w : World} {loose : List Str} {mean : ExcName → Option Value} {mg mb : Str → Option Value} {news : List (Addr × Obj)} {c : Nat} {t : Tok} :
    Claim PySem.Challenge.rw_mj0034_01.row.prog w (Mine.hd.heap_39 w.params) Mine.hd.view_39 loose mean mg mb 42 news [.str ⟨#[c]⟩ t] (fun t => .str (ucW (c : Int)) t) := by
  k_fill
  dsimp only [Claim]
  intros
  rename_i hret
  obtain ⟨hb0, hb1⟩ := or_bound (c : Int)
  refine wpAny_call ?_
  k_dflt cell_enter
  k_steps
  all_goals first
    | exact cb_retS hret (ucW_127 (by assumption) (by assumption)) (by assumption) (by assumption)
    | exact cb_retS hret (ucW_127' (by assumption) (by assumption)) (by assumption) (by assumption)
    | exact cb_retS hret (ucW_p (by assumption) (by assumption) (by assumption) (by assumption)) (by assumption) (by assumption)
    | exact cb_retS hret (ucW_p' (by assumption) (by assumption) (by assumption) (by assumption)) (by assumption) (by assumption)
    | exact cb_retS hret (ucW_c (by assumption) (by omega) (by assumption)) (by assumption) (by assumption)
    | exact cb_retS hret (ucW_c' (by assumption) (by omega) (by assumption)) (by assumption) (by assumption)
end Mine
end

-- part C2
section
open PySem PySem.W PyProof.Rows PySem.Calls
set_option Elab.async false
set_option maxRecDepth 100000
namespace Mine
open Builtin
section
variable {M : Model} {A : Around} {E : Value → Shared → Prop} {s : Shared} {t : Tok} {b : Array UInt8} {pl : Sem Bool} {Q : Value × List Value → Shared → Prop}
theorem method_hex (h : Q (.builtin "bytes.hex", [.bytes b t]) s) : wpAny M A (getMethod (.bytes b t) "hex" pl) Q E s := by
  with_reducible exact KBd.method_of (.bytes b t) (typeIs_bytes _ _ _) FB.slot_bytes_hex FB.type_bytes_hex KBd.noRef h
theorem method_upper (h : Q (.builtin "bytes.upper", [.bytes b t]) s) : wpAny M A (getMethod (.bytes b t) "upper" pl) Q E s := by
  with_reducible exact KBd.method_of (.bytes b t) (typeIs_bytes _ _ _) slot_upper type_upper KBd.noRef h
theorem method_encode {x : PySem.Str} (h : Q (.builtin "str.encode", [.str x t]) s) : wpAny M A (getMethod (.str x t) "encode" pl) Q E s := by
  with_reducible exact getMethod_builtin (typeIs_str _ _ _) F.plainAttrs_str F.slot_str_encode F.type_str_encode (fun _ e => nomatch e) h
end
local macro_rules | `(tactic| walk_at "getMethod str") => `(tactic| (with_reducible refine Mine.method_encode ?_))
local macro_rules | `(tactic| walk_at "getMethod bytes") => `(tactic| (with_reducible refine Mine.method_hex ?_))
local macro_rules | `(tactic| walk_at "getMethod bytes") => `(tactic| (with_reducible refine Mine.method_upper ?_))
local macro_rules | `(tactic| walk_at "call type:type") => `(tactic| ((with_reducible show wpAny _ _ (call (Value.type "type") [Value.bytes _ _]) _ _ _); refine call_type_of (typeIs_bytes _ _ _) (by decide +kernel) ?_))
local macro_rules | `(tactic| walk_at "call type:type") => `(tactic| ((with_reducible show wpAny _ _ (call (Value.type "type") [Value.int _ _]) _ _ _); refine call_type_of (typeIs_int _ _ _) (by decide +kernel) ?_))
theorem hexLen (b : Array UInt8) (hz : b.size ≤ 1048576) : (hexArr b).size ≤ 16777216 := by rw [hexArr_size]; omega
local macro_rules | `(tactic| walk_at "call builtin:bytes.hex") => `(tactic| ((refine Mine.hex_bytes (hexLen _ (by assumption)) ?_); intro _ _))
local macro_rules | `(tactic| walk_at "call builtin:str.encode") => `(tactic| ((refine Mine.encode_ascii (hexArr_lt _) (hexLen _ (by assumption)) ?_); intro _ _))
local macro_rules | `(tactic| walk_at "call builtin:bytes.upper") => `(tactic| ((refine Mine.upper_bytes (by rw [Array.size_map]; exact hexLen _ (by assumption)) ?_); intro _ _))
theorem ret_bytes {h₀ h' : Heap} {L : Addr} {m : PySem.Str → Option Value} {news : List (Addr × Obj)} {s : Shared} {Q : Value → Shared → Prop} {t : Tok} {tk' : Nat} {x y : Array UInt8}
    (hret : ∀ (t : Tok) (h' : Heap) (tk' : Nat), Fr h₀ L h' m → News h₀ L h' news → Q (.bytes x t) { s with heap := h', toks := tk' }) (e : y = x) (F : Fr h₀ L h' m) (N : News h₀ L h' news) : Q (.bytes y t) { s with heap := h', toks := tk' } := by
  subst e
  exact hret t h' tk' F N
set_option maxHeartbeats 8000000 in
theorem c_b16 {w : World} {loose : List Str} {mean : ExcName → Option Value} {mg mb : Str → Option Value} {news : List (Addr × Obj)} {b : Array UInt8} {t : Tok} (hz : b.size ≤ 1048576) :
    Claim PySem.Challenge.rw_mj0034_01.row.prog w (Mine.hd.heap_39 w.params) Mine.hd.view_39 loose mean mg mb 65 news [.bytes b t] (fun t => .bytes (B (flat (nats b))) t) := by
  k_fill
  dsimp only [Claim]
  intros
  rename_i hret
  refine wpAny_call ?_
  k_dflt cell_enter
  k_steps
  all_goals exact ret_bytes hret (b16_eq b) (by assumption) (by assumption)
end Mine
end

-- part C4
section
open PySem PySem.W PyProof.Rows PySem.Calls
set_option Elab.async false
set_option maxRecDepth 100000
namespace Mine
open Builtin
abbrev ClaimL (prog : Program) (w : World) (K : Frag) (p : Program) (loose : List Str) (mean : ExcName → Option Value) (mg mb : Str → Option Value) (f : Addr) (news : List (Addr × Obj)) (vs : List Value) (ys : List Str) : Prop :=
  ∀ (cn : Str) (cs : Scope) (a : Addr) (ccd : Value) (cl : List (Str × Addr)) (A₀ : Around) (base h₀ : Heap) (L : Addr) (m : Str → Option Value) (s : Shared) (Q E : Value → Shared → Prop),
    Below A₀ base [] h₀ → Fr h₀ L s.heap m → K.In h₀ → News h₀ L s.heap news → Top p loose mean mg mb h₀ → cs.kind = .function →
    (∀ (D : Addr) (us : List Value) (h' : Heap) (tk' : Nat), Fr h₀ L h' m → News h₀ L h' ((D, LCg.lst us) :: news) → LCg.Off1 D news → StrsAre us ys → Q (.ref D) { s with heap := h', toks := tk' }) →
      wpAny (model prog w) (callerA.deeper (envX cn cs L a ccd cl)) (call (.ref f) vs) Q E s
theorem flatten_ones : ∀ l : List Nat, (l.map fun c => [c]).flatten = l
  | [] => rfl
  | a :: l => by rw [List.map_cons, List.flatten_cons, flatten_ones l]; rfl
local macro_rules | `(tactic| walk_at "st") => `(tactic| (first | (k_unfold; (try dsimp only)) | (k_end; wrow_close) | walk1 | (dsimp only; walk1) | (leave1; try dsimp only) | fail "no step"))
local macro_rules | `(tactic| walk_at "to comp") => `(tactic| repeat ((fail_if_success (with_reducible show wpAny _ _ (eval (Expr.ListComp _ _ _ _) _) _ _ _)); walk_at "st"))
local macro_rules | `(tactic| walk_at "to call") => `(tactic| repeat ((fail_if_success (with_reducible show wpAny _ _ (call _ _) _ _ _)); walk_at "st"))
local macro_rules | `(tactic| walk_at "to src") => `(tactic| repeat ((fail_if_success (with_reducible show Src _ _ _ _ _ _ _ _ _)); walk_at "st"))
local macro_rules | `(tactic| walk_at "to end") => `(tactic| repeat (walk_at "st"))
local macro_rules | `(tactic| walk_at "comp W") => `(tactic| (k_dflt (refine ListComp_W (by assumption) (by with_unfolding_all rfl) (by decide) (by rfl) (by decide) (by rfl) ?_)))
theorem size_two (n : Nat) : Builtin.Range.rangeSize 0 ((2 * n : Nat) : Int) 2 = ((n : Nat) : Int) := by
  unfold Builtin.Range.rangeSize
  split <;> split <;> first | omega | (simp_all; omega) | skip
theorem small_fin : ∀ n : Fin 101, Builtin.Range.small 0 ((2 * n.val : Nat) : Int) 2 = true := by decide +kernel
theorem small_two {n : Nat} (h : n ≤ 100) : Builtin.Range.small 0 ((2 * n : Nat) : Int) 2 = true := small_fin ⟨n, by omega⟩
theorem flat_drop : ∀ (bs : List Nat) (i : Nat), i < bs.length → ((flat bs).drop (2 * i)).take 2 = hx (bs.getD i 0)
  | [], _, h => absurd h (Nat.not_lt_zero _)
  | b :: r, 0, _ => by simp [flat, hx]
  | b :: r, i + 1, h => by
    have := flat_drop r i (by simpa using h)
    have e : (flat (b :: r)).drop (2 * (i + 1)) = (flat r).drop (2 * i) := by
      show (hx b ++ flat r).drop (2 * (i + 1)) = _
      rw [show 2 * (i + 1) = 2 * i + 2 by omega]
      simp [hx]
    rw [e, this]
    simp
theorem slice_pair (bs : List Nat) {i : Nat} (h : i < bs.length) : Txt.slice (mk (flat bs)) (some (2 * (i : Int))) (some (2 * (i : Int) + 2)) = mk (hx (bs.getD i 0)) := by
  show StrLaws.sliceText (mk (flat bs)) (some (2 * (i : Int))) (some (2 * (i : Int) + 2)) = _
  rw [StrLaws.sliceText_plain ⟨by omega, by omega, by show _ ≤ (((flat bs).length : Nat) : Int); rw [flat_len]; omega⟩]
  have e1 : (2 * (i : Int)).toNat = 2 * i := by omega
  have e2 : (2 * (i : Int) + 2 - 2 * (i : Int)).toNat = 2 := by omega
  rw [e1, e2]
  show mk (((flat bs).drop (2 * i)).take 2) = _
  rw [flat_drop bs i h]
theorem map_range {β : Type} (f : Nat → β) (bs : List Nat) : (List.range bs.length).map (fun i => f (bs.getD i 0)) = bs.map f := by
  apply List.ext_getElem
  · simp
  · intro i h1 h2
    simp at h1 h2
    simp [h2]
set_option maxHeartbeats 8000000 in
theorem c_pairs {w : World} {loose : List Str} {mean : ExcName → Option Value} {mg mb : Str → Option Value} {news : List (Addr × Obj)} {bs : List Nat} {t : Tok} (hb : ∀ b ∈ bs, b < 256) (hl : bs.length ≤ 100) :
    ClaimL PySem.Challenge.rw_mj0034_01.row.prog w (Mine.hd.heap_39 w.params) Mine.hd.view_39 loose mean mg mb 77 news [.bytes (B (flat bs)) t] (bs.map fun b => mk (hx b)) := by
  k_fill
  dsimp only [ClaimL]
  intros
  rename_i hret
  refine wpAny_call ?_
  k_dflt (refine' code_defC ?k1 ?k2 ?k3 ?k4 ?k5 ?kA ?kF ?kK ?k6 ?k7 ?k8 ?k9 ?kB ?kD ?_ ?c2 ?c3 ?c4; (case kA => exact rfl); (case kF => exact rfl); (case kK => assumption); (case k1 => k_asm); (case k2 => k_asm); (case k3 => k_asm); (case k4 => k_asm); (case k5 => k_asm); (case k6 => k_is); (case k7 => k_is); (case k8 => k_room); (case k9 => exact BindsTo.of_eq rfl); (case kB => exact rfl); (case kD => decide +kernel); (case c2 => exact rfl); (case c3 => exact rfl); (case c4 => exact rfl); k_whole; intro g' L' h' tk' cells' FG' F' N' Y' B' X' T' l1; k_cells Y'; (try simp only [List.cons_append, List.nil_append] at N'); (try dsimp only); (try k_lift B'); (try k_fold))
  walk_at "to comp"
  walk_at "comp W"
  walk_at "to src"
  refine src_bytes rfl F' N' (by rw [B_size, flat_len, sizeLine_eq]; omega) (fun gg => ?_)
  refine rest_all (flat bs) (fun c v => ∃ u, v = .int (c : Int) u) (fun c v => ∃ u, v = .str ⟨#[c]⟩ u) (by rw [B_size]) ?hP trivial ?turn ?fin
  case hP =>
    rintro i v hi ⟨c, u, hc, rfl⟩
    refine ⟨c.toNat, ?_, u, rfl⟩
    have := nats_B (fun b hb' => Nat.lt_of_le_of_lt (flat_lt hb b hb').2 (by decide) : ∀ b ∈ flat bs, b < 256)
    rw [← this]
    simp [nats, hc]
  case turn =>
    rintro c v hc ⟨u, rfl⟩
    intro nw C oC m₂ hh tk Q1 E1 hns hx1 F1 N1 hk1
    have hc1 := (flat_lt hb c hc)
    simp only [List.cons_append] at N1
    walk_at "to end"
    exact hk1 _ _ _ F1 N1 ⟨_, rfl⟩
  case fin =>
    intro ys hys
    have hS : StrsAre ys ((flat bs).map fun c => mk [c]) := hys.strs (fun c => mk [c]) (fun a _ v hv => hv)
    intro D h2 tk2 F2 N2 off2
    walk_at "to call"
    have hj : Txt.join (PySem.Str.ofString "") ((flat bs).map fun c => mk [c]) = mk (flat bs) := by
      have := join_flat ((flat bs).map fun c => [c])
      rw [List.map_map] at this
      rw [show PySem.Str.ofString "" = mk [] by decide +kernel]
      refine this.trans ?_
      rw [flatten_ones]
    refine join_list (News.isList N2 (.head _)) hS ?hz ?hj2
    case hz =>
      rw [List.map_map, List.length_map]
      have : ((flat bs).map ((fun x => x.length) ∘ fun c => mk [c])).sum = (flat bs).length := by
        induction flat bs with
        | nil => rfl
        | cons a l ih => rw [List.map_cons, List.sum_cons, ih, List.length_cons]; show 1 + _ = _; omega
      rw [this, flat_len]
      show 2 * bs.length + 2 * bs.length * 0 ≤ _
      omega
    case hj2 =>
      intro t3 k3
      rw [hj]
      replace N2 : News g' L' h2 ((L' + 1, _) :: news) := fun p hp => N2 p (.tail _ hp)
      refine storeX_C F2 N2 rfl (UpdF.head (fun p hp => Nat.ne_of_lt (Nat.lt_succ_of_lt (l1 p hp)))) (by assumption) ?_ (by rfl) (by rfl)
      intro h4 o4 F4 N4 d4
      clear N2 F2
      have hlen : (mk (flat bs)).length = 2 * bs.length := by rw [mk_len, flat_len]
      walk_at "to comp"
      walk_at "comp W"
      walk_at "to call"
      refine PyProof.Rows.len_str (by rw [hlen]; omega) ?_
      rw [hlen]
      walk_at "to call"
      refine range3_rows F4 N4 (by decide) ?_
      intro h5 tk5 t5 u5 v5 hr5 F5 N5 _
      refine src_range (n := bs.length) rfl F5 N5 hr5 ?hsm ?hn ?hz (fun gg => ?_)
      case hsm => exact small_two (by omega)
      case hn => exact size_two _
      case hz => rw [sizeLine_eq]; omega
      refine rest_all (List.range bs.length) (fun i v => ∃ u, v = .int (2 * (i : Int)) u) (fun i v => ∃ u, v = .str (mk (hx (bs.getD i 0))) u) (by simp) ?hP2 trivial ?turn2 ?fin2
      case hP2 =>
        rintro i v hi ⟨t6, rfl⟩
        exact ⟨i, by simp [hi], t6, by rw [Int.zero_add, Int.mul_comm]⟩
      case turn2 =>
        rintro i v hi ⟨u, rfl⟩
        have hi' : i < bs.length := by simpa using hi
        have hsl := slice_pair bs hi'
        intro nw C oC m₂ hh tk Q1 E1 hns hx1 F1 N1 hk1
        simp only [List.cons_append] at N1
        walk_at "to end"
        rw [hsl]
        exact hk1 _ _ _ (by assumption) (by assumption) ⟨_, rfl⟩
      case fin2 =>
        intro ys hys
        have hS2 : StrsAre ys ((List.range bs.length).map fun i => mk (hx (bs.getD i 0))) := hys.strs _ (fun a _ v hv => hv)
        intro D2 h6 tk6 F6 N6 off6
        walk_at "to end"
        rw [map_range (fun b => mk (hx b))] at hS2
        exact hret D2 ys _ _ (by assumption) (fun p hp => (by assumption : News _ _ _ ((D2, LCg.lst ys) :: (L' + 1, o4) :: news)) p (by rcases List.mem_cons.mp hp with h1 | h1 <;> simp [h1])) off6.2 hS2
end Mine
end

-- part R3
section
open PySem PySem.W PyProof.Rows PySem.Calls
set_option Elab.async false
namespace Mine
open LCg
section
variable {prog : Program} {w : World} {A : Around} {E : Value → Shared → Prop} {s : Shared} {h₀ : Heap} {L : Addr} {m : Str → Option Value} {env : Env}
/-- a test that lets nothing through -/
theorem rest_none {α : Type} {ct elt : Expr} {x : Str} {scope : Scope} {cl : List (Str × Addr)} {S : List (Addr × Obj) → Prop} {P : Nat → Value → Prop} {Fin : List Value → List (Addr × Obj) → Prop} {n : Nat} {news : List (Addr × Obj)}
    (xs : List α) (V : α → Value → Prop) (hn : xs.length = n) (hP : ∀ i v, i < n → P i v → ∃ a, xs[i]? = some a ∧ V a v) (hS : S news)
    (turn : ∀ a v, a ∈ xs → V a v → ∀ (nw : List (Addr × Obj)) (C : Addr) (oC : Obj) (m₂ : Str → Option Value) (h : Heap) (tk : Nat) (Q' : Bool → Shared → Prop) (E' : Value → Shared → Prop), NsObj oC m₂ → m₂ x = some v → Fr h₀ L h m → News h₀ L h ((C, oC) :: (news ++ nw)) →
      (∀ h' tk', Fr h₀ L h' m → News h₀ L h' ((C, oC) :: (news ++ nw)) → Q' false { s with heap := h', toks := tk' }) →
      wpAny (model prog w) A (isTrue ct (compEnvC scope cl C env) (eval ct (compEnvC scope cl C env))) Q' E' { s with heap := h, toks := tk })
    (fin : Fin [] news) : LCt.CompRestT prog w A h₀ L m env ct elt x scope cl s S P Fin n 0 [] news := by
  have key : ∀ (j i : Nat), i + j = n → LCt.CompRestT prog w A h₀ L m env ct elt x scope cl s S P Fin j i [] news := by
    intro j
    induction j with
    | zero => intro i _; exact LCt.CompRestT.zero fin
    | succ j ih =>
      intro i hi
      refine LCt.CompRestT.succ ?_
      intro v I oI C oC D m₂ h tk E' hv hC hx F N off ne
      obtain ⟨a, ha, hV⟩ := hP i v (by omega) hv
      refine turn a v (List.mem_of_getElem? ha) hV [(I, oI), (D, lst [])] C oC m₂ h tk _ E' hC hx F (fun p hp => N p ?_) (fun h' tk' F' N' => ?_)
      · simp only [List.mem_cons, List.mem_append, List.not_mem_nil, or_false] at hp ⊢
        rcases hp with h1 | h1 | h1 | h1 <;> simp [h1]
      · rw [if_neg (by decide)]
        refine CompEnd.intro F' N' news (fun p hp => ?_) off hS (ih (i + 1) (by omega))
        simp only [List.mem_cons, List.mem_append, List.not_mem_nil, or_false] at hp ⊢
        rcases hp with h1 | h1 | h1 | h1 <;> simp [h1]
  exact key n 0 (by omega)
end
end Mine
end

-- part R4
section
open PySem PySem.W PyProof.Rows PySem.Calls
set_option Elab.async false
set_option maxRecDepth 100000
namespace Mine
section
variable {α : Type} (f : α → PyData)
theorem can_all : ∀ l : List α, (∀ a ∈ l, PyData.canLay0 (f a) = true) → PyData.canLayAll0 (l.map f) = true
  | [], _ => rfl
  | a :: r, hf => by simp [PyData.canLayAll0, hf a (.head _), can_all r fun b hb => hf b (.tail _ hb)]
theorem dep_all (hf : ∀ a, PyData.depth (f a) = 0) : ∀ l : List α, PyData.depthAll (l.map f) = 0
  | [] => rfl
  | a :: r => by simp [PyData.depthAll, hf a, dep_all hf r]
theorem shaped_all (h2 : ∀ a, PyData.depth (f a) = 0) (l : List α) (h1 : ∀ a ∈ l, PyData.canLay0 (f a) = true) : SeqAt.shaped (.list (l.map f)) = true := by
  simp [SeqAt.shaped, PyData.canLay0, PyData.depth, can_all f l h1, dep_all f h2]
theorem same_all (hf : ∀ a, PySem.Spec.same (f a) (f a) = true) : ∀ l : List α, PySem.Spec.sameAll (l.map f) (l.map f) = true
  | [] => by simp [PySem.Spec.sameAll]
  | a :: r => by simp [PySem.Spec.sameAll, hf a, same_all hf r]
theorem same_list (hf : ∀ a, PySem.Spec.same (f a) (f a) = true) (l : List α) : PySem.Spec.same (.list (l.map f)) (.list (l.map f)) = true := by
  simp only [PySem.Spec.same]; exact same_all f hf l
end
theorem carried_bools {α : Type} {R : α → Value → Prop} (f : α → Bool) : ∀ {l : List α} {vs : List Value}, All2 R l vs → (∀ a ∈ l, ∀ v, R a v → v = .bool (f a)) → CarriedAll vs ((l.map f).map PyData.bool)
  | _, _, .nil, _ => .nil
  | _, _, .cons (a := a) q r, h => by
    rw [h a (.head _) _ q]
    exact .cons (.bool _) (carried_bools f r fun b hb => h b (.tail _ hb))
section
variable {prog : Program} {w : World} {A : Around} {E : Value → Shared → Prop} {s : Shared} {a b : Addr} {xs ys : List Value} {Q : Value → Shared → Prop}
theorem ne_bools {bs : List Bool} (ha : s.heap.IsList a xs.toArray) (hb : s.heap.IsList b ys.toArray) (hi : CarriedAll xs (bs.map PyData.bool)) (hj : CarriedAll ys (bs.map PyData.bool)) (hu : A.units + 64 < cLine) (h : Q (.bool false) s) :
    wpAny (model prog w) A (compareOp .NotEq (.ref a) (.ref b)) Q E s :=
  ne_dataH_same (reads_newData ha hi) (reads_newData hb hj) (shaped_all _ (fun _ => rfl) _ fun _ _ => rfl) (shaped_all _ (fun _ => rfl) _ fun _ _ => rfl) hu
    (SeqAt.noMix_of_shape (.list .bool) rfl _ _ (list_map_has fun _ => rfl) (list_map_has fun _ => rfl)) (by rw [same_list _ (fun b => by cases b <;> rfl)]; exact h)
theorem eq_strs {zs : List PySem.Str} (ha : s.heap.IsList a xs.toArray) (hb : s.heap.IsList b ys.toArray) (hi : StrsAre xs zs) (hj : StrsAre ys zs) (hz : ∀ z ∈ zs, PyData.canLay0 (PyData.str z) = true) (hu : A.units + 64 < cLine) (h : Q (.bool true) s) :
    wpAny (model prog w) A (compareOp .Eq (.ref a) (.ref b)) Q E s :=
  eq_dataH_same (reads_newData ha hi.carried) (reads_newData hb hj.carried) (shaped_all _ (fun _ => rfl) _ hz) (shaped_all _ (fun _ => rfl) _ hz) hu
    (SeqAt.noMix_of_shape (.list .str) rfl _ _ (list_map_has fun _ => rfl) (list_map_has fun _ => rfl)) (by rw [same_list _ (fun b => by simp [PySem.Spec.same])]; exact h)
end
end Mine
end

-- part R5
section
open PySem PySem.W PyProof.Rows PySem.Calls
set_option Elab.async false
namespace Mine
open LCg
theorem strs_at : ∀ {vs : List Value} {zs : List Str}, StrsAre vs zs → ∀ (i : Nat) (v : Value), vs[i]? = some v → ∃ z t, zs[i]? = some z ∧ v = .str z t
  | _, _, .nil, i, v, h => by simp at h
  | _, _, .cons z t r, 0, v, h => by
    simp at h
    exact ⟨z, t, rfl, h.symm⟩
  | _, _, .cons z t r, i + 1, v, h => by
    simp at h
    obtain ⟨z', t', h1, h2⟩ := strs_at r i v h
    exact ⟨z', t', by simpa using h1, h2⟩
theorem strs_len : ∀ {vs : List Value} {zs : List Str}, StrsAre vs zs → vs.length = zs.length
  | _, _, .nil => rfl
  | _, _, .cons _ _ r => by simp [strs_len r]
theorem Off1.of {D : Addr} : ∀ {l : List (Addr × Obj)}, (∀ p ∈ l, p.1 ≠ D) → Off1 D l
  | [], _ => trivial
  | _ :: _, h => ⟨h _ List.mem_cons_self, Off1.of fun p hp => h p (List.mem_cons_of_mem _ hp)⟩
def StrBy (zs : List Str) (g : Str → Str) (v y : Value) : Prop := ∃ z t u, z ∈ zs ∧ v = .str z t ∧ y = .str (g z) u
theorem paired_strs {zs₀ : List Str} {g : Str → Str} : ∀ {vs : List Value} {zs : List Str} {ys : List Value}, StrsAre vs zs → Paired (StrBy zs₀ g) vs ys → StrsAre ys (zs.map g)
  | _, _, _, .nil, .nil => .nil
  | _, _, _, .cons z t r, .cons h q => by
    obtain ⟨z', t', u, _, e1, e2⟩ := h
    cases e1
    rw [e2]
    exact .cons _ _ (paired_strs r q)
def WSrc (prog : Program) (w : World) (A : Around) (E : Value → Shared → Prop) (env : Env) (elt : Expr) (x y : Str) (scope : Scope) (cl : List (Str × Addr)) (zs : List Str) (g : Str → Str) (Q : Flow → Shared → Prop) (xv : Value) (s₁ : Shared) : Prop :=
  wpAny (model prog w) A (pyIter xv) (fun it s₂ => ∃ I fp wr n P St m, it = .ref I ∧ Walks prog w A I fp wr n P St ∧ n ≤ sizeLine ∧ St 0 s₂.heap ∧ (∀ b ∈ fp, b < s₂.heap.objs.size) ∧
      env.locals ∉ wr ∧ s₂.heap.Ns env.locals m ∧ QuietOnC prog w A env scope cl x [] elt wr P (fun _ => true) (StrBy zs g) s₂ ∧
      (∀ D h' tk ys (vs : List Value), s₂.heap.get? D = none → h'.IsList D ys → h'.PlainList D ys → vs.length = n → (∀ j v, vs[j]? = some v → P j v) → Paired (StrBy zs g) (vs.filter (fun _ => true)) ys.toList →
        h'.Ns env.locals (fun z => if z = y then some (.ref D) else m z) → (∀ b o, b ≠ env.locals → b ∉ wr → s₂.heap.get? b = some o → h'.get? b = some o) → Q .next { s₂ with heap := h', toks := tk })) E s₁
theorem Assign_words {prog : Program} {w : World} {A : Around} {E : Value → Shared → Prop} {env : Env} {s : Shared} {elt iter : Expr} {x y : Str} {px py : Pos} {scope : Scope} {cl : List (Str × Addr)} {pos spos : Pos} {Q : Flow → Shared → Prop} (zs : List Str) (g : Str → Str)
    (hsw : swapsWith (.ListComp elt [⟨.Name x px, iter, [], 0⟩] scope pos) (some (.Name y py)) spos.line env = pure true)
    (hclos : closureFor scope env = pure cl) (hcell : ∀ z ∈ scope.names, z.2 ≠ .cell) (hkind : scope.kind = .function)
    (hnames : ∀ z ∈ scope.names, z.2 = .local → scope.names.lookup z.1 = some .local) (hx : scope.names.lookup x = some .local)
    (hy : env.kindOf y = some .local) (hp : (env.scope.kind == .class || (env.scope.kind == .module && env.locals != env.globals)) = false)
    (h : wpAny (model prog w) A (eval iter env) (WSrc prog w A E env elt x y scope cl zs g Q) E s) (hs : ∀ x, foldedSetIterable iter env x = pure x := by intro _; rfl) :
    wpAny (model prog w) A (exec (.Assign [.Name y py] (.ListComp elt [⟨.Name x px, iter, [], 0⟩] scope pos) spos) env) Q E s :=
  wpAny_Assign_ListComp_free (fun _ => true) (StrBy zs g) hsw hclos hcell hkind hnames hx hy hp h hs
section
variable {prog : Program} {w : World} {A : Around} {E : Value → Shared → Prop} {s₁ : Shared} {h₀ : Heap} {L : Addr} {m : Str → Option Value} {env : Env} {news : List (Addr × Obj)}
theorem words_src {elt : Expr} {x y : Str} {scope : Scope} {cl : List (Str × Addr)} {Q : Flow → Shared → Prop} {ax : Addr} {vs : List Value} {zs : List Str} (g : Str → Str) (hh : A.handled = none)
    (F : Fr h₀ L s₁.heap m) (N : News h₀ L s₁.heap news) (hl : s₁.heap.IsList ax vs.toArray) (hvs : StrsAre vs zs) (hz : zs.length ≤ sizeLine) (hL : env.locals = L) (htk : 1 ≤ s₁.toks)
    (he : ∀ C oC m₂ z t (s₃ : Shared) (Q' E' : Value → Shared → Prop), z ∈ zs → NsObj oC m₂ → m₂ x = some (.str z t) → Fr h₀ L s₃.heap m → News h₀ L s₃.heap ((C, oC) :: news) → 1 ≤ s₃.toks →
      (∀ u k, Q' (.str (g z) u) { s₃ with toks := k }) → wpAny (model prog w) A (eval elt (compEnvC scope cl C env)) Q' E' s₃)
    (fin : ∀ D ys n h' tk, Fr h₀ L h' (fun z => if z = y then some (.ref D) else m z) → News h₀ L h' ((D, PySem.W.listOf (List.toArray ys) n) :: news) → Off1 D news → StrsAre ys (zs.map g) → Q .next { s₁ with heap := h', toks := tk }) :
    WSrc prog w A E env elt x y scope cl zs g Q (.ref ax) s₁ := by
  subst hL
  unfold WSrc
  have hlt : ax < s₁.heap.objs.size := by obtain ⟨_, e, _⟩ := hl; exact Heap.lt_size e
  refine wpAny_pyIter_list hl ?_
  have up : ∀ b o, s₁.heap.get? b = some o → (s₁.heap.push { cls := .type "list_iterator", data := .fields #[.ref ax, .int 0 0] }).get? b = some o := fun b o e => Heap.get?_push_of_some _ e
  have hLI : env.locals ≠ s₁.heap.objs.size := Nat.ne_of_lt F.ns.lt
  have fresh : ∀ a, s₁.heap.objs.size ≤ a → s₁.heap.get? a = none := fun a ha => by
    cases e : s₁.heap.get? a with
    | none => rfl
    | some o' => exact absurd (Heap.lt_size e) (Nat.not_lt.mpr ha)
  have fresh₀ : ∀ a, s₁.heap.objs.size ≤ a → h₀.get? a = none := fun a ha => by
    cases e : h₀.get? a with
    | none => rfl
    | some o' => have := F.keep a o' e; rw [fresh a ha] at this; cases this
  refine ⟨s₁.heap.objs.size, [s₁.heap.objs.size, ax], [s₁.heap.objs.size], vs.toArray.size, _, _, m, rfl, Walks.list hh _ ax (Nat.ne_of_lt hlt) vs.toArray, by rw [List.size_toArray, strs_len hvs]; exact hz,
    ⟨⟨_, Heap.get?_push_size _ rfl, rfl, rfl⟩, hl.push _⟩, ?_, by simpa using hLI, F.ns.keeps up, ⟨?_, ?_⟩, ?_⟩
  · intro b hb
    show b < (s₁.heap.push _).objs.size
    rw [Heap.size_push]
    rcases List.mem_cons.mp hb with rfl | hb
    · exact Nat.lt_succ_self _
    · rw [List.mem_singleton.mp hb]; exact Nat.lt_succ_of_lt hlt
  · intro C i v s₃ m₃ E' _ _ _ _ _ _
    exact wpAny_pure ⟨rfl, s₃.heap, s₃.toks, rfl, fun _ _ e => e⟩
  · intro C i v s₃ m₃ E' hC hP _ hns hx hk htk3
    obtain ⟨z, t, hzi, rfl⟩ := strs_at hvs i v (by simpa using hP)
    obtain ⟨oC, heC, hoC⟩ := ns_obj hns
    have hC' : s₁.heap.objs.size ≤ C := by
      have : (s₁.heap.push { cls := .type "list_iterator", data := .fields #[.ref ax, .int 0 0] }).objs.size ≤ C := hC
      rw [Heap.size_push] at this
      exact Nat.le_of_succ_le this
    have old : ∀ b o, s₁.heap.get? b = some o → s₃.heap.get? b = some o := fun b o e => hk b o (by simpa using Nat.ne_of_lt (Heap.lt_size e)) (up b o e)
    refine he C oC m₃ z t s₃ _ E' (List.mem_of_getElem? hzi) hoC hx (F.keeps old) (fun p hp => ?_) (Nat.le_trans htk htk3) (fun u k => ⟨⟨z, t, u, List.mem_of_getElem? hzi, rfl, rfl⟩, s₃.heap, k, rfl, fun _ _ e => e⟩)
    rcases List.mem_cons.mp hp with rfl | hp
    · exact ⟨heC, fun e => Nat.lt_irrefl _ (Nat.lt_of_lt_of_le F.ns.lt (e ▸ hC')), fresh₀ _ hC'⟩
    · exact ⟨old _ _ (N p hp).1, (N p hp).2⟩
  · intro D h' tk ys us hD hlD hplD hlen hP hF hns hk
    have hus : us = vs := by
      apply List.ext_getElem?
      intro i
      cases e : us[i]? with
      | none =>
        have : vs.length ≤ i := by
          have h1 := List.getElem?_eq_none_iff.mp e
          rw [hlen, List.size_toArray] at h1
          exact h1
        exact (List.getElem?_eq_none this).symm
      | some v => exact (by simpa using (hP i v e).symm)
    subst hus
    rw [List.filter_eq_self.mpr (fun _ _ => rfl)] at hF
    have notD : ∀ b o, s₁.heap.get? b = some o → b ≠ D := fun b o e q => by
      have e2 := up b o e
      rw [q] at e2
      rw [show (s₁.heap.push { cls := .type "list_iterator", data := .fields #[.ref ax, .int 0 0] }).get? D = none from hD] at e2
      cases e2
    have hL₀ : h₀.get? env.locals = none := Heap.get?_none_of_le F.above
    have notI : ∀ b o, s₁.heap.get? b = some o → b ∉ [s₁.heap.objs.size] := fun b o e => by simpa using Nat.ne_of_lt (Heap.lt_size e)
    obtain ⟨oL, esL, epL, hoL, _⟩ := F.ns
    have hDL : D ≠ env.locals := fun q => notD _ _ hoL q.symm
    have hD₀ : h₀.get? D = none := by
      cases e : h₀.get? D with
      | none => rfl
      | some o => exact absurd rfl (notD _ _ (F.keep _ _ e))
    obtain ⟨nD, hnD⟩ := hplD
    refine fin D ys.toList nD h' tk ⟨hns, fun b o e => hk b o (fun q => by rw [q, hL₀] at e; cases e) (notI b o (F.keep b o e)) (up b o (F.keep b o e)), F.above⟩ (fun p hp => ?_) (Off1.of fun p hp => notD _ _ (N p hp).1) (paired_strs hvs hF)
    rcases List.mem_cons.mp hp with rfl | hp
    · exact ⟨hnD, hDL, hD₀⟩
    · exact ⟨hk _ _ (N p hp).2.1 (notI _ _ (N p hp).1) (up _ _ (N p hp).1), (N p hp).2⟩
end
end Mine
end

-- part M1b
section
open PySem PySem.W PyProof.Rows PySem.Calls
set_option Elab.async false
set_option maxRecDepth 100000
namespace Mine
open Builtin
local macro_rules | `(tactic| walk_at "st") => `(tactic| (first | (k_unfold; (try dsimp only)) | (k_end; wrow_close) | walk1 | (dsimp only; walk1) | (leave1; try dsimp only) | fail "no step"))
local macro_rules | `(tactic| walk_at "to comp") => `(tactic| repeat ((fail_if_success (with_reducible show wpAny _ _ (eval (Expr.ListComp _ _ _ _) _) _ _ _)); walk_at "st"))
local macro_rules | `(tactic| walk_at "to call") => `(tactic| repeat ((fail_if_success (with_reducible show wpAny _ _ (call _ _) _ _ _)); walk_at "st"))
local macro_rules | `(tactic| walk_at "to store") => `(tactic| repeat ((fail_if_success (with_reducible show wpAny _ _ (storeName _ _ _) _ _ _)); walk_at "st"))
local macro_rules | `(tactic| walk_at "to or") => `(tactic| repeat ((fail_if_success (with_reducible show wpAny _ _ (eval (Expr.BoolOp _ _ _) _) _ _ _)); walk_at "st"))
local macro_rules | `(tactic| walk_at "to src") => `(tactic| repeat ((fail_if_success (with_reducible show Src _ _ _ _ _ _ _ _ _)); walk_at "st"))
local macro_rules | `(tactic| walk_at "to end") => `(tactic| repeat (walk_at "st"))
local macro_rules | `(tactic| walk_at "comp W") => `(tactic| (k_dflt (refine ListComp_W (by assumption) (by with_unfolding_all rfl) (by decide) (by rfl) (by decide) (by rfl) ?_)))

local macro_rules | `(tactic| walk_at "to srcL") => `(tactic| repeat ((fail_if_success (with_reducible show LCg.CompSrc _ _ _ _ _ _ _ _ _ _ _ _ _ _)); walk_at "st"))
local macro_rules | `(tactic| walk_at "comp L") => `(tactic| (k_dflt (refine LCg.ListComp_U (F₀ := by assumption) (by with_unfolding_all rfl) (by decide) (by rfl) (by decide) (by rfl) ?_)))
local macro_rules | `(tactic| walk_at "comp WT") => `(tactic| (k_dflt (refine ListComp_WT (by assumption) (by with_unfolding_all rfl) (by decide) (by rfl) (by decide) (by rfl) ?_)))
local macro_rules | `(tactic| walk_at "to cmp") => `(tactic| repeat ((fail_if_success (with_reducible show wpAny _ _ (compareOp _ _ _) _ _ _)); walk_at "st"))
local macro_rules | `(tactic| walk_at "to asg") => `(tactic| repeat ((fail_if_success (with_reducible show wpAny _ _ (exec (Stmt.Assign _ (Expr.ListComp _ _ _ _) _) _) _ _ _)); walk_at "st"))
def PInts (h₀ : Heap) (L : Addr) (m : Str → Option Value) (news : List (Addr × Obj)) (s : Shared) (v : Value) (s' : Shared) : Prop :=
  ∃ a vs ns k h' tk', v = .ref a ∧ s' = { s with heap := h', toks := tk' } ∧ Fr h₀ L h' m ∧ News h₀ L h' ((a, W.listOf (List.toArray vs) k) :: news) ∧ LCg.Off1 a news ∧ IntsAre vs ns ∧ 1 ≤ ns.length ∧ ns.length ≤ 12

theorem mono_ints {M : Model} {A : Around} {E : Value → Shared → Prop} {s : Shared} {h₀ : Heap} {L : Addr} {m : Str → Option Value} {news : List (Addr × Obj)} {t : Sem Value} {Q : Value → Shared → Prop}
    (F : Fr h₀ L s.heap m) (N : News h₀ L s.heap news) (h1 : wpAny M A t (PInts h₀ L m news s) E s)
    (h2 : ∀ a vs ns k h' tk', Fr h₀ L h' m → News h₀ L h' ((a, W.listOf (List.toArray vs) k) :: news) → LCg.Off1 a news → IntsAre vs ns → 1 ≤ ns.length → ns.length ≤ 12 → Q (.ref a) { s with heap := h', toks := tk' }) : wpAny M A t Q E s :=
  wpAny_mono h1 (fun v s' hp => by
    obtain ⟨a, vs, ns, k, h', tk', rfl, rfl, F, N, o, i, l1, l2⟩ := hp
    exact h2 a vs ns k h' tk' F N o i l1 l2) fun _ _ e => e

theorem size_one (n : Nat) : Builtin.Range.rangeSize 0 (n : Int) 1 = ((n : Nat) : Int) := by
  unfold Builtin.Range.rangeSize
  split <;> split <;> omega
def cdOf (ns : List Int) (i : Nat) : Int := if ((i : Nat) : Int).fmod 2 = 1 then (ns.getD ((i : Nat) : Int).toNat 0).fmod 55296 else ns.getD ((i : Nat) : Int).toNat 0
theorem cd_odd (ns : List Int) {i : Nat} (h : ((i : Nat) : Int).fmod 2 = 1) : (ns.getD ((i : Nat) : Int).toNat 0).fmod 55296 = cdOf ns i := by rw [cdOf, if_pos h]
theorem cd_even (ns : List Int) {i : Nat} (h : ¬ ((i : Nat) : Int).fmod 2 = 1) : ns.getD ((i : Nat) : Int).toNat 0 = cdOf ns i := by rw [cdOf, if_neg h]
theorem int_of {x y : Int} {t : Tok} (h : x = y) : ∃ u, Value.int x t = .int y u := ⟨t, by rw [h]⟩
theorem str_of {x y : PySem.Str} {t : Tok} (h : x = y) : ∃ u, Value.str x t = .str y u := ⟨t, by rw [h]⟩
theorem codeList (ns : List Int) {ys : List Value} (h : All2 (fun i v => ∃ u, v = Value.int (cdOf ns i) u) (List.range ns.length) ys) :
    ∃ cs : List Int, IntsAre ys cs ∧ cs.length = ns.length ∧ ∀ i, i < cs.length → ((i : Nat) : Int).fmod 2 = 1 → 0 ≤ cs.getD i 0 ∧ cs.getD i 0 < 55296 := by
  refine ⟨(List.range ns.length).map (cdOf ns), h.ints _ (fun a _ v hv => hv), by simp, ?_⟩
  intro i hi ho
  have hi' : i < ns.length := by simpa using hi
  have e : ((List.range ns.length).map (cdOf ns)).getD i 0 = cdOf ns i := by simp [hi']
  rw [e, cdOf, if_pos ho]
  exact ⟨fmod_lo _ (by decide), fmod_hi _ (by decide)⟩
theorem map_rangeI {β : Type} (f : Int → β) (bs : List Int) : (List.range bs.length).map (fun i => f (bs.getD i 0)) = bs.map f := by
  apply List.ext_getElem
  · simp
  · intro i h1 h2
    simp at h1 h2
    simp [h2]
theorem words_of (cs : List Int) {ys : List Value} (h : All2 (fun i v => ∃ u, v = Value.str (ucW (cs.getD i 0)) u) (List.range cs.length) ys) : StrsAre ys ((cs.map uw).map mk) := by
  have := h.strs (fun i => ucW (cs.getD i 0)) (fun a _ v hv => hv)
  rw [map_rangeI ucW] at this
  rw [List.map_map]
  have e : cs.map ucW = cs.map (mk ∘ uw) := List.map_congr_left fun c _ => ucW_eq c
  rw [← e]
  exact this
theorem sum_le : ∀ (ls : List (List Nat)) (k : Nat), (∀ l ∈ ls, l.length ≤ k) → ((ls.map mk).map (·.length)).sum ≤ k * ls.length
  | [], _, _ => by simp
  | a :: r, k, h => by
    have h1 := h a (.head _)
    have h2 := sum_le r k fun l hl => h l (.tail _ hl)
    simp only [List.map_cons, List.sum_cons, List.length_cons, mk_len] at h2 ⊢
    rw [Nat.mul_succ]
    omega
theorem words_fit (cs : List Int) (h : cs.length ≤ 12) : (((cs.map uw).map mk).map (·.length)).sum + ((cs.map uw).map mk).length * (PySem.Str.ofString "\n").length ≤ 16777216 := by
  have := sum_le (cs.map uw) 3 (fun l hl => by obtain ⟨c, _, rfl⟩ := List.mem_map.mp hl; exact uw_len c)
  simp only [List.length_map] at this ⊢
  have e : (PySem.Str.ofString "\n").length = 1 := by decide +kernel
  rw [e]
  omega
theorem nl_eq : PySem.Str.ofString "\n" = mk [10] := by decide +kernel
theorem pg_len : ∀ (us : List (List Nat)) (k : Nat), (∀ u ∈ us, u.length ≤ k) → (pg us).length ≤ (k + 1) * us.length
  | [], _, _ => by simp [pg]
  | [u], k, h => by
    have := h u (.head _)
    show u.length ≤ _
    simp
    omega
  | u :: v :: r, k, h => by
    have h1 := h u (.head _)
    have h2 := pg_len (v :: r) k fun l hl => h l (.tail _ hl)
    show (u ++ 10 :: pg (v :: r)).length ≤ _
    rw [List.length_append, List.length_cons]
    simp only [List.length_cons, Nat.mul_succ] at h2 ⊢
    omega
theorem pg_lt : ∀ (us : List (List Nat)), (∀ u ∈ us, ∀ b ∈ u, b < 256) → ∀ b ∈ pg us, b < 256
  | [], _, b, hb => nomatch hb
  | [u], h, b, hb => h u (.head _) b hb
  | u :: v :: r, h, b, hb => by
    have hb' : b ∈ u ++ 10 :: pg (v :: r) := hb
    rcases List.mem_append.mp hb' with h1 | h1
    · exact h u (.head _) b h1
    · rcases List.mem_cons.mp h1 with rfl | h1
      · decide
      · exact pg_lt (v :: r) (fun l hl => h l (.tail _ hl)) b h1
theorem page_len (cs : List Int) (h : cs.length ≤ 12) : (pg (cs.map uw)).length ≤ 48 := by
  have := pg_len (cs.map uw) 3 (fun l hl => by obtain ⟨c, _, rfl⟩ := List.mem_map.mp hl; exact uw_len c)
  rw [List.length_map] at this
  omega
theorem page_lt (cs : List Int) : ∀ b ∈ pg (cs.map uw), b < 256 := pg_lt _ fun u hu => by obtain ⟨c, _, rfl⟩ := List.mem_map.mp hu; exact uw_lt c
theorem page_ne (cs : List Int) (h : 1 ≤ cs.length) : pg (cs.map uw) ≠ [] := pg_ne (by intro e; have := congrArg List.length e; simp at this; subst this; simp at h) fun u hu => by obtain ⟨c, _, rfl⟩ := List.mem_map.mp hu; exact uw_ne c
theorem sign_at {l : List Nat} (i : Nat) (v : Value) (hi₀ : i < (mk l).cps.size) (h : SignAt (mk l) i v) : ∃ a, l[i]? = some a ∧ ∃ u, v = .str ⟨#[a]⟩ u := by
  obtain ⟨c, u, hc, rfl⟩ := h
  exact ⟨c, by simpa [mk] using hc, u, rfl⟩
theorem ints_in (pl : List Nat) (h : ∀ b ∈ pl, b < 256) : KBa.In (pl.map fun c => ((c : Nat) : Int)) := by
  intro n hn
  obtain ⟨c, hc, rfl⟩ := List.mem_map.mp hn
  have := h c hc
  exact ⟨by omega, by omega⟩
theorem bytes_page (pl : List Nat) : byteArr (pl.map fun c => ((c : Nat) : Int)) = B pl := by
  unfold byteArr B
  rw [List.map_map]
  rfl
theorem list_small {ys : List Value} {cs : List Int} (h : IntsAre ys cs) (hl : cs.length ≤ 12) : ys.toArray.size ≤ sizeLine := by rw [List.size_toArray, h.length, sizeLine_eq]; omega
theorem list_len {ys : List Value} {cs : List Int} (h : IntsAre ys cs) : cs.length = ys.toArray.size := by rw [List.size_toArray, h.length]
theorem list_at {ys : List Value} {cs : List Int} (h : IntsAre ys cs) (i : Nat) (v : Value) (hi₀ : i < ys.toArray.size) (hv : ys.toArray[i]? = some v) : ∃ a, cs[i]? = some a ∧ ∃ u, v = .int a u := by
  obtain ⟨k, t, e, hk⟩ := IntsAre.at h i v (by simpa using hv)
  exact ⟨k, hk, t, e⟩
theorem ints_in256 (cs : List Int) : KBa.In (cs.map fun c => c.fmod 256) := by
  intro n hn
  obtain ⟨c, _, rfl⟩ := List.mem_map.mp hn
  exact ⟨fmod_lo _ (by decide), fmod_hi _ (by decide)⟩
def octs (cs : List Int) : List Nat := cs.map fun c => (c % 256).toNat
theorem octs_len (cs : List Int) : (octs cs).length = cs.length := by simp [octs]
theorem octs_lt (cs : List Int) : ∀ b ∈ octs cs, b < 256 := by
  intro b hb
  obtain ⟨c, _, rfl⟩ := List.mem_map.mp hb
  omega
theorem fmod256 (c : Int) : c.fmod 256 = c % 256 := Int.fmod_eq_emod_of_nonneg _ (by decide)
theorem bytes_codes (cs : List Int) : byteArr (cs.map fun c => c.fmod 256) = B (octs cs) := by
  unfold byteArr B octs
  rw [List.map_map, List.map_map]
  congr 1
  apply List.map_congr_left
  intro c _
  show (c.fmod 256).toNat.toUInt8 = (c % 256).toNat.toUInt8
  rw [fmod256]
theorem empty_eq : PySem.Str.ofString "" = mk [] := by decide +kernel
theorem pairs_mk (pl : List Nat) : (pl.map fun b => mk (hx b)) = (pl.map hx).map mk := by rw [List.map_map]; rfl
theorem flatten_hx (pl : List Nat) : (pl.map hx).flatten = flat pl := by rw [flat, List.flatMap_def]
theorem pairs_fit0 (pl : List Nat) (h : pl.length ≤ 48) : (((pl.map hx).map mk).map (·.length)).sum + ((pl.map hx).map mk).length * (PySem.Str.ofString "").length ≤ 16777216 := by
  have := sum_le (pl.map hx) 2 (fun l hl => by obtain ⟨c, _, rfl⟩ := List.mem_map.mp hl; exact Nat.le_refl _)
  simp only [List.length_map] at this ⊢
  have e : (PySem.Str.ofString "").length = 0 := by decide +kernel
  rw [e]
  omega
theorem H_in : ∀ d : Fin 16, H d.val ∈ (PySem.Str.ofString "0123456789ABCDEF").cps.toList := by decide +kernel
theorem flat_in {pl : List Nat} (h : ∀ b ∈ pl, b < 256) : ∀ c ∈ flat pl, c ∈ (PySem.Str.ofString "0123456789ABCDEF").cps.toList := by
  intro c hc
  unfold flat at hc
  obtain ⟨b, hb, hc⟩ := List.mem_flatMap.mp hc
  have := h b hb
  simp only [hx, List.mem_cons, List.not_mem_nil, or_false] at hc
  rcases hc with rfl | rfl
  · exact H_in ⟨b / 16, by omega⟩
  · exact H_in ⟨b % 16, by omega⟩
theorem blank_eq : PySem.Str.ofString " " = mk [32] := by decide +kernel
theorem pairs_fit1 (pl : List Nat) (h : pl.length ≤ 48) : (((pl.map hx).map mk).map (·.length)).sum + ((pl.map hx).map mk).length * (PySem.Str.ofString " ").length ≤ 16777216 := by
  have := sum_le (pl.map hx) 2 (fun l hl => by obtain ⟨c, _, rfl⟩ := List.mem_map.mp hl; exact Nat.le_refl _)
  simp only [List.length_map] at this ⊢
  have e : (PySem.Str.ofString " ").length = 1 := by decide +kernel
  rw [e]
  omega
theorem join_blank (pl : List Nat) : Txt.join (PySem.Str.ofString " ") ((pl.map hx).map mk) = mk (sp pl) := by rw [blank_eq, ← pairs_mk, join_sp]
theorem join_none (pl : List Nat) : Txt.join (PySem.Str.ofString "") ((pl.map hx).map mk) = mk (flat pl) := by rw [empty_eq, join_flat, flatten_hx]
theorem join_nl (us : List (List Nat)) : Txt.join (PySem.Str.ofString "\n") (us.map mk) = mk (pg us) := by rw [nl_eq, join_pg]
theorem sep_eq : PySem.Str.ofString " 0A " = mk sepL := by decide +kernel
theorem sp_len : ∀ u : List Nat, (sp u).length ≤ 3 * u.length
  | [] => Nat.le_refl _
  | [b] => by show 2 ≤ 3; decide
  | b :: c :: r => by
    have := sp_len (c :: r)
    show (hx b ++ 32 :: sp (c :: r)).length ≤ _
    rw [List.length_append, List.length_cons, hx_len]
    simp only [List.length_cons] at this ⊢
    omega
theorem words_ne (cs : List Int) (h : 1 ≤ cs.length) : cs.map uw ≠ [] := by intro e; have := congrArg List.length e; simp at this; subst this; simp at h
theorem words_good (cs : List Int) : ∀ u ∈ cs.map uw, Good u := fun u hu => by
  obtain ⟨c, _, rfl⟩ := List.mem_map.mp hu
  exact ⟨uw_ne c, fun b hb => ⟨uw_lt c b hb, fun e => uw_ne10 c (e ▸ hb)⟩⟩
theorem repl_fit (cs : List Int) {z : PySem.Str} (h : z ∈ (cs.map uw).map fun u => mk (sp u)) : z.length + (z.length + 1) * (PySem.Str.ofString "").length ≤ 16777216 := by
  obtain ⟨u, hu, rfl⟩ := List.mem_map.mp h
  obtain ⟨c, _, rfl⟩ := List.mem_map.mp hu
  have e : (PySem.Str.ofString "").length = 0 := by decide +kernel
  rw [e, mk_len]
  have := sp_len (uw c)
  have := uw_len c
  omega
theorem words_repl (cs : List Int) : ((cs.map uw).map fun u => mk (sp u)).map (fun z => Txt.replace z (PySem.Str.ofString " ") (PySem.Str.ofString "")) = cs.map fun c => mk (flat (uw c)) := by
  rw [List.map_map, List.map_map]
  apply List.map_congr_left
  intro c _
  show Txt.replace (mk (sp (uw c))) (PySem.Str.ofString " ") (PySem.Str.ofString "") = _
  rw [blank_eq, empty_eq, replace_word (uw_ne c) (uw_lt c)]
theorem strs_small {ys : List Value} {zs : List PySem.Str} (h : StrsAre ys zs) (hl : zs.length ≤ 12) : ys.toArray.size ≤ sizeLine := by rw [List.size_toArray, strs_len h, sizeLine_eq]; omega
theorem word_at {ys : List Value} {cs : List Int} (h : StrsAre ys (cs.map fun c => mk (flat (uw c)))) (i : Nat) (v : Value) (hi₀ : i < ys.toArray.size) (hv : ys.toArray[i]? = some v) : ∃ a, cs[i]? = some a ∧ ∃ u, v = .str (mk (flat (uw a))) u := by
  obtain ⟨z, t, hz, e⟩ := strs_at h i v (by simpa using hv)
  rw [List.getElem?_map] at hz
  obtain ⟨c, hc, rfl⟩ := Option.map_eq_some_iff.mp hz
  exact ⟨c, hc, t, e⟩
theorem word_len (c : Int) : (mk (flat (uw c))).length ≤ 8 := by
  rw [mk_len, flat_len]
  have := uw_len c
  omega
theorem map_fmod (cs : List Int) : (cs.map fun c => c.fmod 256) = cs.map fun c => c % 256 := List.map_congr_left fun c _ => fmod256 c
theorem not_same (l : List Int) : (!decide (l = l)) = false := by simp
theorem oct_at {ys : List Value} {cs : List Int} (h : IntsAre ys (cs.map fun c => c % 256)) (i : Nat) (v : Value) (hi₀ : i < ys.toArray.size) (hv : ys.toArray[i]? = some v) : ∃ b, (octs cs)[i]? = some b ∧ ∃ u, v = .int ((b : Nat) : Int) u := by
  obtain ⟨k, t, e, hk⟩ := IntsAre.at h i v (by simpa using hv)
  rw [List.getElem?_map] at hk
  obtain ⟨c, hc, rfl⟩ := Option.map_eq_some_iff.mp hk
  refine ⟨(c % 256).toNat, by rw [octs, List.getElem?_map, hc]; rfl, t, ?_⟩
  rw [e, Int.toNat_of_nonneg (by omega)]
theorem lay_pairs {bs : List Nat} (h : ∀ b ∈ bs, b < 256) : ∀ z ∈ bs.map fun b => mk (hx b), PyData.canLay0 (PyData.str z) = true := by
  intro z hz
  obtain ⟨b, hb, rfl⟩ := List.mem_map.mp hz
  have := h b hb
  have h1 := H_lt (d := b / 16) (by omega)
  have h2 := H_lt (d := b % 16) (by omega)
  show PyData.strOk (mk (hx b)) = true
  unfold PyData.strOk mk hx
  simp
  omega
theorem item_fin : ∀ r : Fin 256, Txt.item (PySem.Str.ofString "0123456789ABCDEF") (((r.val : Nat) : Int).fdiv 16) ++ Txt.item (PySem.Str.ofString "0123456789ABCDEF") (((r.val : Nat) : Int).fmod 16) = mk (hx r.val) := by decide +kernel
theorem item_pair {b : Nat} (h : b < 256) : Txt.item (PySem.Str.ofString "0123456789ABCDEF") (((b : Nat) : Int).fdiv 16) ++ Txt.item (PySem.Str.ofString "0123456789ABCDEF") (((b : Nat) : Int).fmod 16) = mk (hx b) := item_fin ⟨b, h⟩
set_option maxHeartbeats 8000000 in
theorem main : PySem.Challenge.rw_mj0034_01.Holds := Mine.hd (by
  w_strict (
    k_fill
    intro w s₀ s₁ mg mb G Y fa o pm cd doc dV kV ho hd hcd hD hmg hg args vals as hpre hlay hrd hwl hlo
    have KX := kIn_of Y
    k_behind G ho hd hcd hD hmg hpre hlay hrd hwl hlo cd
    (all_goals try k_fold)
    rename News _ _ _ _ => N0
    rename Fr _ _ _ _ => F0
    rename Top _ _ _ _ _ _ => T0
    rename Below _ _ _ _ => B0
    have hEnd : ∀ (h' : Heap) (tk' : Nat) (m' : Str → Option Value), Fr s₁.heap s₁.heap.objs.size h' m' → qk (Flow.ret (Value.bool true)) { s₁ with heap := h', toks := tk' } := by
      intro h' tk' m' F'
      walk_at "to end"
    clear_value qk ek
    clear Y
    walk_at "to or"
    refine mono_ints F0 N0 ?_ ?_
    · walk_at "to end"
      · refine ⟨_, _, _, _, _, _, rfl, rfl, by assumption, by assumption, ⟨by k_ne, by k_ne, by k_ne, trivial⟩, by assumption, by omega, by omega⟩
      · walk_at "to end"
        refine ⟨_, [_, _, _, _], [127, 255, 383, 10], _, _, _, rfl, rfl, by assumption, cb_drop (by assumption) (by kcf_all), ⟨by k_ne, by k_ne, by k_ne, trivial⟩, .cons _ _ (.cons _ _ (.cons _ _ (.cons _ _ .nil))), by decide, by decide⟩
    · intro a1 vs1 ns k1 h2 tk2 F1 N1 o1 i1 l1 l1'
      generalize hL0 : s₁.heap.objs.size = L0 at *
      generalize hb0 : s₁.heap = base0 at *
      have B1 : Below callerA base0 [] base0 := B0
      clear G hcd hD F0 N0 ho hb0 B0
      simp only [LCg.Off1, and_true] at o1
      walk_at "to comp"
      walk_at "comp W"
      walk_at "to src"
      refine src_range (n := ns.length) rfl (by assumption) (by assumption) (by assumption) (small_one (by omega) (by omega) (by omega) (by omega)) (size_one _) (by rw [sizeLine_eq]; omega) (fun gg => ?_)
      refine rest_all (List.range ns.length) (fun i v => ∃ u, v = .int (i : Int) u) (fun i v => ∃ u, v = .int (cdOf ns i) u) (by simp) ?hP1 trivial ?turn1 ?fin1
      case hP1 =>
        rintro i v hi ⟨t6, rfl⟩
        exact ⟨i, by simp [hi], t6, by rw [Int.zero_add, Int.mul_one]⟩
      case turn1 =>
        rintro i v hi ⟨u, rfl⟩
        have hi' : i < ns.length := by simpa using hi
        intro nw C oC m₂ hh tk Q1 E1 hns hx1 F1 N1 hk1
        simp only [List.cons_append, List.nil_append] at N1
        walk_at "to end"
        · exact hk1 _ _ _ (by assumption) (by assumption) (int_of (cd_odd ns (by assumption)))
        · walk_at "to end"
          exact hk1 _ _ _ (by assumption) (by assumption) (int_of (cd_even ns (by assumption)))
      case fin1 =>
        intro ys hys
        obtain ⟨cs, hcs, hlc, hodd⟩ := codeList ns hys
        intro D1 h3 tk3 F2 N2 o2
        replace N2 := cb_drop (news := [(D1, LCg.lst ys), (L0 + 1 + 1 + 1, _), (L0 + 1 + 1, _), (L0 + 1, _)]) N2 (by kcf_all)
        simp only [LCg.Off1, and_true] at o2
        walk_at "to comp"
        walk_at "comp W"
        walk_at "to src"
        refine src_range (n := cs.length) rfl (by assumption) (by assumption) (by assumption) (small_one (by omega) (by omega) (by omega) (by omega)) (size_one _) (by rw [sizeLine_eq]; omega) (fun gg2 => ?_)
        refine rest_all (List.range cs.length) (fun i v => ∃ u, v = .int (i : Int) u) (fun i v => ∃ u, v = .str (ucW (cs.getD i 0)) u) (by simp) ?hP2 trivial ?turn2 ?fin2
        case hP2 =>
          rintro i v hi ⟨t6, rfl⟩
          exact ⟨i, by simp [hi], t6, by rw [Int.zero_add, Int.mul_one]⟩
        case turn2 =>
          rintro i v hi ⟨u, rfl⟩
          have hi' : i < cs.length := by simpa using hi
          intro nw C oC m₂ hh tk Q1 E1 hns hx1 F1 N1 hk1
          simp only [List.cons_append, List.nil_append] at N1
          have hgd : cs.getD ((i : Nat) : Int).toNat 0 = cs.getD i 0 := by rw [Int.toNat_natCast]
          walk_at "to call"
          · rw [hgd]
            obtain ⟨hb1, hb2⟩ := hodd i hi' (by assumption)
            refine chr_of_range hb1 (by omega) ?_
            walk_at "to call"
            refine c_unctrl_s _ _ _ _ _ _ _ _ _ _ _ _ _ B1 F1 KX N1 T0 rfl (fun t' h' tk' F' N' => ?_)
            exact hk1 _ _ _ F' N' (str_of (by rw [Int.toNat_of_nonneg hb1]))
          · walk_at "to call"
            rw [hgd]
            refine c_unctrl _ _ _ _ _ _ _ _ _ _ _ _ _ B1 F1 KX N1 T0 rfl (fun t' h' tk' F' N' => ?_)
            exact hk1 _ _ _ F' N' ⟨_, rfl⟩
        case fin2 =>
          intro ys2 hys2
          have hS2 : StrsAre ys2 ((cs.map uw).map mk) := words_of cs hys2
          intro D2 h4 tk4 F3 N3 o3
          walk_at "to call"
          refine join_list (News.isList N3 (.head _)) hS2 (words_fit cs (by omega)) ?_
          intro t5 k5
          rw [join_nl]
          replace N3 := cb_drop (news := [(D1, LCg.lst ys), (L0 + 1 + 1 + 1, _), (L0 + 1 + 1, _), (L0 + 1, _)]) N3 (by kcf_all)
          clear hS2 hys2
          have hpl := page_len cs (by omega)
          have hpb := page_lt cs
          have hpn := page_ne cs (by omega)
          generalize hpage : pg (cs.map uw) = pl at *
          walk_at "to comp"
          walk_at "comp W"
          walk_at "to src"
          refine src_str rfl (by assumption) (by assumption) (by rw [sizeLine_eq]; show (mk pl).length ≤ _; rw [mk_len]; omega) (fun gg3 => ?_)
          refine rest_all pl (fun c v => ∃ u, v = .str ⟨#[c]⟩ u) (fun c v => ∃ u, v = .int (c : Int) u) (by simp [mk]) sign_at trivial ?turn3 ?fin3
          case turn3 =>
            rintro c v hc ⟨u, rfl⟩
            intro nw C oC m₂ hh tk Q1 E1 hns hx1 F1 N1 hk1
            simp only [List.cons_append, List.nil_append] at N1
            walk_at "to end"
            exact hk1 _ _ _ (by assumption) (by assumption) ⟨_, rfl⟩
          case fin3 =>
            intro ys3 hys3
            have hI3 : IntsAre ys3 (pl.map fun c => ((c : Nat) : Int)) := hys3.ints _ (fun a _ v hv => hv)
            intro D3 h5 tk5 F4 N4 o4
            walk_at "to call"
            refine kso_max F4 N4 (News.isList N4 (.head _)) hI3 (by rw [List.length_map]; exact List.length_pos_iff.mpr hpn) rfl ?_
            intro h6 Mx t6 tk6 F5 N5 hM1 hM2
            have hM3 : Mx ≤ 255 := by
              obtain ⟨c, hc, rfl⟩ := List.mem_map.mp hM1
              have := hpb c hc
              omega
            replace N5 := cb_drop (news := [(D1, LCg.lst ys), (L0 + 1 + 1 + 1, _), (L0 + 1 + 1, _), (L0 + 1, _)]) N5 (by kcf_all)
            clear hys3 hI3 hM1 hM2 N4 F4 o4
            walk_at "to comp"
            walk_at "comp W"
            walk_at "to src"
            refine src_str rfl (by assumption) (by assumption) (by rw [sizeLine_eq]; show (mk pl).length ≤ _; rw [mk_len]; omega) (fun gg4 => ?_)
            refine rest_all pl (fun c v => ∃ u, v = .str ⟨#[c]⟩ u) (fun c v => ∃ u, v = .int (c : Int) u) (by simp [mk]) sign_at trivial ?turn4 ?fin4
            case turn4 =>
              rintro c v hc ⟨u, rfl⟩
              intro nw C oC m₂ hh tk Q1 E1 hns hx1 F1 N1 hk1
              simp only [List.cons_append, List.nil_append] at N1
              walk_at "to end"
              exact hk1 _ _ _ (by assumption) (by assumption) ⟨_, rfl⟩
            case fin4 =>
              intro ys4 hys4
              have hI4 : IntsAre ys4 (pl.map fun c => ((c : Nat) : Int)) := hys4.ints _ (fun a _ v hv => hv)
              intro D4 h7 tk7 F6 N6 o6
              walk_at "to call"
              refine KBa.make_K F6 N6 rfl (News.isList N6 (.head _)) hI4 (ints_in pl hpb) (by rw [List.length_map]; omega) ?_
              intro h8 t8 tk8 F7 N7 _
              rw [bytes_page]
              replace N7 := cb_drop (news := [(D1, LCg.lst ys), (L0 + 1 + 1 + 1, _), (L0 + 1 + 1, _), (L0 + 1, _)]) N7 (by kcf_all)
              clear hys4 hI4 N6 F6 o6
              walk_at "to call"
              refine c_b16 (by rw [B_size]; omega) _ _ _ _ _ _ _ _ _ _ _ _ _ B1 F7 KX N7 T0 rfl (fun t9 h9 tk9 F8 N8 => ?_)
              rw [nats_B hpb]
              dsimp only
              walk_at "to comp"
              walk_at "comp L"
              walk_at "to srcL"
              refine LCg.CompSrc.ledger rfl (by assumption) (by assumption) (by k_mem) (list_small hcs (by omega)) (fun gg5 => ?_)
              refine rest_all cs (fun c v => ∃ u, v = .int c u) (fun c v => ∃ u, v = .int (c.fmod 256) u) (list_len hcs) (list_at hcs) (.inr ⟨_, .head _, rfl, _, rfl⟩) ?turn5 ?fin5
              case turn5 =>
                rintro c v hc ⟨u, rfl⟩
                intro nw C oC m₂ hh tk Q1 E1 hns hx1 F1 N1 hk1
                simp only [List.cons_append, List.nil_append] at N1
                walk_at "to end"
                exact hk1 _ _ _ (by assumption) (by assumption) ⟨_, rfl⟩
              case fin5 =>
                intro ys5 hys5
                have hI5 : IntsAre ys5 (cs.map fun c => c.fmod 256) := hys5.ints _ (fun a _ v hv => hv)
                intro D5 h10 tk10 F9 N9 o9
                walk_at "to call"
                refine KBa.make_K F9 N9 rfl (News.isList N9 (.head _)) hI5 (ints_in256 cs) (by rw [List.length_map]; omega) ?_
                intro h11 t11 tk11 F10 N10 _
                rw [bytes_codes]
                replace N10 := cb_drop (news := [(D1, LCg.lst ys), (L0 + 1 + 1 + 1, _), (L0 + 1 + 1, _), (L0 + 1, _)]) N10 (by kcf_all)
                clear hys5 hI5 N9 F9 o9
                have hol : (octs cs).length ≤ 12 := by rw [octs_len]; omega
                have hob := octs_lt cs
                walk_at "to call"
                refine c_b16 (by rw [B_size]; omega) _ _ _ _ _ _ _ _ _ _ _ _ _ B1 F10 KX N10 T0 rfl (fun t12 h12 tk12 F11 N11 => ?_)
                rw [nats_B hob]
                dsimp only
                walk_at "to call"
                walk_at "st"
                walk_at "to call"
                walk_at "st"
                walk_at "to call"
                refine c_pairs hpb (by omega) _ _ _ _ _ _ _ _ _ _ _ _ _ B1 (by assumption) KX (by assumption) T0 rfl (fun D6 us6 h13 tk13 F12 N12 o12 hS6 => ?_)
                simp only [LCg.Off1, and_true] at o12
                walk_at "to comp"
                walk_at "comp WT"
                walk_at "to call"
                rw [pairs_mk] at hS6
                refine join_list (News.isList (by assumption) (by k_mem)) hS6 (pairs_fit0 pl hpl) ?_
                intro t14 k14
                rw [join_none]
                refine src_str rfl (by assumption) (by assumption) (by rw [sizeLine_eq]; show (mk (flat pl)).length ≤ _; rw [mk_len, flat_len]; omega) (fun gg6 => ?_)
                refine rest_none (flat pl) (fun c v => ∃ u, v = .str ⟨#[c]⟩ u) (by simp [mk]) sign_at trivial ?turn6 ?fin6
                case turn6 =>
                  rintro c v hc ⟨u, rfl⟩
                  intro nw C oC m₂ hh tk Q1 E1 hns hx1 F1 N1 hk1
                  simp only [List.cons_append, List.nil_append] at N1
                  have hin := flat_in hpb c hc
                  walk_at "to end"
                  rw [StrLaws.found_one, decide_eq_true hin]
                  exact hk1 _ _ (by assumption) (by assumption)
                case fin6 =>
                  intro D7 h15 tk15 F14 N14 o14
                  walk_at "to cmp"
                  refine ke_ne_ints (xs := []) (ys := []) (News.isList (by assumption) (by k_mem)) (News.isList (by assumption) (by k_mem)) .nil .nil (Nat.le_of_ble_eq_true rfl) ?_
                  walk_at "to asg"
                  rename Fr _ _ _ _ => F15
                  rename News _ _ _ _ => N15
                  replace N15 := cb_drop (news := [(D6, LCg.lst us6), (D1, LCg.lst ys), (L0 + 1 + 1 + 1, _), (L0 + 1 + 1, _), (L0 + 1, _)]) N15 (by kcf_all)
                  clear o14
                  k_dflt (refine Assign_words ((cs.map uw).map fun u => mk (sp u)) (fun z => Txt.replace z (PySem.Str.ofString " ") (PySem.Str.ofString "")) (by with_unfolding_all rfl) (by with_unfolding_all rfl) (by decide) (by rfl) (by decide) (by rfl) (by rfl) (by rfl) ?_)
                  walk_at "to call"
                  refine wpAny_with_toks (n := 1) (by dsimp only; omega) ?_
                  refine join_list (News.isList (by assumption) (by k_mem)) hS6 (pairs_fit1 pl hpl) ?_
                  intro t16 k16 htk16
                  rw [join_blank]
                  walk_at "to call"
                  refine wpAny_with_toks (n := 1) (by dsimp only; omega) ?_
                  refine KSpl.split1 F15 N15 (by decide +kernel) ?_ (by rw [mk_len, sizeLine_eq]; have := sp_len pl; omega)
                  intro D8 l8 h16 k17 e8 hS8 F16 N16 lt8 htk17
                  rw [sep_eq, ← hpage, split_page (words_ne cs (by omega)) (words_good cs)] at e8
                  rw [e8] at hS8
                  refine words_src (L := L0) (h₀ := base0) (fun z => Txt.replace z (PySem.Str.ofString " ") (PySem.Str.ofString "")) rfl F16 N16 (News.isList N16 (.head _)) hS8 ?hz7 ?hL7 htk17 ?elt7 ?fin7
                  case hz7 => rw [List.length_map, List.length_map, sizeLine_eq]; omega
                  case hL7 => rfl
                  case elt7 =>
                    intro C oC m₂ z t s₃ Q1 E1 hz hns hx1 F1 N1 htk3 hk1
                    walk_at "to call"
                    refine SC.replace (by show s₃.toks ≠ 0; omega) (by show s₃.toks + 1 ≠ 0; omega) (by show s₃.toks ≠ s₃.toks + 1; omega) (by decide +kernel) (repl_fit cs hz) ?_
                    intro t' k'
                    exact hk1 _ _
                  case fin7 =>
                    intro D9 ys9 n9 h17 tk18 F17 N17 o17 hS9
                    rw [words_repl] at hS9
                    replace N17 := cb_drop (news := [(D9, PySem.W.listOf (List.toArray ys9) n9), (D1, LCg.lst ys), (L0 + 1 + 1 + 1, _), (L0 + 1 + 1, _), (L0 + 1, _)]) N17 (by kcf_all)
                    simp only [LCg.Off1, and_true] at o17
                    clear hS8 N16 F16 N15 F15 e8
                    walk_at "to asg"
                    k_dflt (refine LCg.Assign_ListComp_U (F₀ := by assumption) (by rfl) (by with_unfolding_all rfl) (by with_unfolding_all rfl) (by decide) (by rfl) (by decide) (by rfl) (by rfl) (by rfl) ?_)
                    walk_at "to srcL"
                    refine LCg.CompSrc.ledger rfl (by assumption) (by assumption) (.head _) (strs_small hS9 (by rw [List.length_map]; omega)) (fun gg8 => ?_)
                    refine rest_all cs (fun c v => ∃ u, v = .str (mk (flat (uw c))) u) (fun c v => ∃ u, v = .int (c % 256) u) (by rw [List.size_toArray, strs_len hS9, List.length_map]) (word_at hS9) (.inr ⟨_, .head _, rfl, _, rfl⟩) ?turn8 ?fin8
                    case turn8 =>
                      rintro c v hc ⟨u, rfl⟩
                      intro nw C oC m₂ hh tk Q1 E1 hns hx1 F1 N1 hk1
                      simp only [List.cons_append, List.nil_append] at N1
                      walk_at "to call"
                      refine c_octet _ _ _ _ _ _ _ _ _ _ _ _ _ B1 F1 KX N1 T0 rfl (fun t' h' tk' F' N' => ?_)
                      exact hk1 _ _ _ F' N' ⟨_, rfl⟩
                    case fin8 =>
                      intro ys10 hys10
                      have hI10 : IntsAre ys10 (cs.map fun c => c % 256) := hys10.ints _ (fun a _ v hv => hv)
                      intro D10 h18 tk19 F18 N18 o18
                      simp only [LCg.Off1, and_true] at o18
                      walk_at "to comp"
                      walk_at "comp L"
                      walk_at "to srcL"
                      refine LCg.CompSrc.ledger (k := ys.length) rfl (by assumption) (by assumption) (by k_mem) (list_small hcs (by omega)) (fun gg9 => ?_)
                      refine rest_all cs (fun c v => ∃ u, v = .int c u) (fun c v => ∃ u, v = .int (c.fmod 256) u) (list_len hcs) (list_at hcs) (.inr ⟨LCg.lst ys, by k_mem, rfl, _, rfl⟩) ?turn9 ?fin9
                      case turn9 =>
                        rintro c v hc ⟨u, rfl⟩
                        intro nw C oC m₂ hh tk Q1 E1 hns hx1 F1 N1 hk1
                        simp only [List.cons_append, List.nil_append] at N1
                        walk_at "to end"
                        exact hk1 _ _ _ (by assumption) (by assumption) ⟨_, rfl⟩
                      case fin9 =>
                        intro ys11 hys11
                        have hI11 : IntsAre ys11 (cs.map fun c => c % 256) := by
                          have := hys11.ints (fun c => c.fmod 256) (fun a _ v hv => hv)
                          rw [map_fmod] at this
                          exact this
                        intro D11 h19 tk20 F19 N19 o19
                        walk_at "to cmp"
                        refine ke_ne_ints (News.isList N19 (by k_mem)) (News.isList N19 (by k_mem)) hI10 hI11 (Nat.le_of_ble_eq_true rfl) ?_
                        rw [not_same]
                        replace N19 := cb_drop (news := [(D10, LCg.lst ys10), (D9, PySem.W.listOf (List.toArray ys9) n9), (D1, LCg.lst ys), (L0 + 1 + 1 + 1, _), (L0 + 1 + 1, _), (L0 + 1, _)]) N19 (by kcf_all)
                        clear hys11 hI11 o19 N18 F18
                        walk_at "to comp"
                        walk_at "comp L"
                        walk_at "to srcL"
                        refine LCg.CompSrc.ledger (k := n9) rfl (by assumption) (by assumption) (by k_mem) (strs_small hS9 (by rw [List.length_map]; omega)) (fun gg10 => ?_)
                        refine rest_all cs (fun c v => ∃ u, v = .str (mk (flat (uw c))) u) (fun c v => v = .bool (decide (c = 127))) (by rw [List.size_toArray, strs_len hS9, List.length_map]) (word_at hS9) (.inr ⟨PySem.W.listOf (List.toArray ys9) n9, by k_mem, rfl, _, rfl⟩) ?turn10 ?fin10
                        case turn10 =>
                          rintro c v hc ⟨u, rfl⟩
                          intro nw C oC m₂ hh tk Q1 E1 hns hx1 F1 N1 hk1
                          simp only [List.cons_append, List.nil_append] at N1
                          walk_at "to end"
                          exact hk1 _ _ _ (by assumption) (by assumption) (by rw [word_eq])
                        case fin10 =>
                          intro ys12 hys12
                          have hB12 := carried_bools (fun c => decide (c = 127)) hys12 (fun a _ v hv => hv)
                          intro D12 h20 tk21 F20 N20 o20
                          simp only [LCg.Off1, and_true] at o20
                          walk_at "to comp"
                          walk_at "comp L"
                          walk_at "to srcL"
                          refine LCg.CompSrc.ledger (k := ys.length) rfl (by assumption) (by assumption) (by k_mem) (list_small hcs (by omega)) (fun gg11 => ?_)
                          refine rest_all cs (fun c v => ∃ u, v = .int c u) (fun c v => v = .bool (decide (c = 127))) (list_len hcs) (list_at hcs) (.inr ⟨LCg.lst ys, by k_mem, rfl, _, rfl⟩) ?turn11 ?fin11
                          case turn11 =>
                            rintro c v hc ⟨u, rfl⟩
                            intro nw C oC m₂ hh tk Q1 E1 hns hx1 F1 N1 hk1
                            simp only [List.cons_append, List.nil_append] at N1
                            walk_at "to end"
                            exact hk1 _ _ _ (by assumption) (by assumption) rfl
                          case fin11 =>
                            intro ys13 hys13
                            have hB13 := carried_bools (fun c => decide (c = 127)) hys13 (fun a _ v hv => hv)
                            intro D13 h21 tk22 F21 N21 o21
                            walk_at "to cmp"
                            refine ne_bools (News.isList N21 (by k_mem)) (News.isList N21 (by k_mem)) hB12 hB13 (Nat.le_of_ble_eq_true rfl) ?_
                            replace N21 := cb_drop (news := [(D10, LCg.lst ys10), (L0 + 1 + 1 + 1, _), (L0 + 1 + 1, _), (L0 + 1, _)]) N21 (by kcf_all)
                            clear hys12 hys13 hB12 hB13 o20 o21 N20 F20 N19 F19
                            walk_at "to call"
                            refine c_pairs hob (by omega) _ _ _ _ _ _ _ _ _ _ _ _ _ B1 (by assumption) KX (by assumption) T0 rfl (fun D14 us14 h22 tk23 F22 N22 o22 hS14 => ?_)
                            walk_at "to comp"
                            walk_at "comp L"
                            walk_at "to srcL"
                            refine LCg.CompSrc.ledger (k := ys10.length) rfl (by assumption) (by assumption) (by k_mem) (list_small hI10 (by rw [List.length_map]; omega)) (fun gg12 => ?_)
                            refine rest_all (octs cs) (fun b v => ∃ u, v = .int ((b : Nat) : Int) u) (fun b v => ∃ u, v = .str (mk (hx b)) u) (by rw [octs_len, ← list_len hI10, List.length_map]) (oct_at hI10) (.inr ⟨LCg.lst ys10, by k_mem, rfl, _, rfl⟩) ?turn12 ?fin12
                            case turn12 =>
                              rintro b v hb ⟨u, rfl⟩
                              have hb' := hob b hb
                              intro nw C oC m₂ hh tk Q1 E1 hns hx1 F1 N1 hk1
                              simp only [List.cons_append, List.nil_append] at N1
                              walk_at "to end"
                              exact hk1 _ _ _ (by assumption) (by assumption) (str_of (item_pair hb'))
                            case fin12 =>
                              intro ys15 hys15
                              have hS15 : StrsAre ys15 ((octs cs).map fun b => mk (hx b)) := hys15.strs _ (fun a _ v hv => hv)
                              intro D15 h23 tk24 F23 N23 o23
                              walk_at "to cmp"
                              refine eq_strs (News.isList N23 (by k_mem)) (News.isList N23 (by k_mem)) hS14 hS15 (lay_pairs hob) (Nat.le_of_ble_eq_true rfl) ?_
                              walk_at "to end"
                              exact hEnd _ _ _ (by assumption)))
end Mine
end

theorem PySem.Challenge.cw_mj0034_01_holds : PySem.Challenge.rw_mj0034_01.Holds := by
  exact Mine.main
