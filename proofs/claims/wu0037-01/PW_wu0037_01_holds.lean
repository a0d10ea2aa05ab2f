import PyProof.Rows.All
import Wide.All
import OpenK.AllK
import Wide.FinOn
import PySem.Challenge.RW_wu0037_01
open PySem PySem.W PySem.Spec PySem.Calls PyProof.Rows
set_option Elab.async false
set_option maxRecDepth 100000
set_option maxHeartbeats 8000000
set_option compiler.extract_closed false
set_option rowWalk.seconds 0
namespace Mine
open_top hd for PySem.Challenge.rw_wu0037_01
local macro_rules | `(tactic| walk_at "m_enter") => `(tactic| ((case k1 => k_asm); (case k2 => k_asm); (case k6 => k_is); (case k7 => k_is); (case k8 => (dsimp only; omega)); (case k9 => exact BindsTo.of_eq rfl); (case c5 => decide); (case kB => exact locs rfl); (case c2 => exact rfl); (case c3 => exact rfl); (case c4 => exact rfl); k_whole; intro L' h' F' N'; (try dsimp only [List.reverse, List.reverseAux] at F'); (try dsimp only); (try k_fold)))
local macro_rules | `(tactic| walk_at "m_calls") => `(tactic| fail "none")
local macro_rules | `(tactic| walk_at "m_guard") => `(tactic| (
  (fail_if_success (with_reducible show wpAny _ _ (exec (Stmt.While _ _ _ _) _) _ _ _));
  (fail_if_success (with_reducible show wpAny _ _ (exec (Stmt.For _ _ _ _ _) _) _ _ _));
  (fail_if_success (with_reducible show wpAny _ _ (pyIter _) _ _ _));
  (fail_if_success (with_reducible show wpAny _ _ (call (Value.ref _) _) _ _ _));
  (fail_if_success (with_reducible show wpAny _ _ (exec (Stmt.If _ [Stmt.Assign [Expr.Tuple _ _ _] _ _] _ _) _) _ _ _));
  (fail_if_success (with_reducible show Cut _ _ _ _ _ _ _ _));
  (fail_if_success (with_reducible show CutE _ _ _ _ _ _ _ _));
  (fail_if_success (with_reducible show KswPost _ _ _ _ _ _ _ _ _ _ _ _ _ _));
  (fail_if_success (with_reducible show KswEnd _ _ _ _ _ _ _ _ _ _ _ _));
  (fail_if_success (with_reducible show InvPostN _ _ _ _ _ _ _ _ _));
  (fail_if_success (with_reducible show InvEndN _ _ _ _ _ _ _))))
local macro_rules | `(tactic| walk_at "m_same") => `(tactic| first
  | (intro z h1 h2 h3; (simp only [List.forall_mem_cons, List.not_mem_nil, false_implies, implies_true, and_true, ne_eq] at h2); (simp only [List.contains_cons, List.contains_nil, Bool.or_false, Bool.or_eq_false_iff, beq_eq_false_iff_ne, ne_eq] at h3); first | rfl | (simp only [kstB, h1, h2, h3, if_false, List.contains_nil, List.contains_cons, Bool.false_eq_true]; done) | (simp [kstB, h1, h2, h3]; done))
  | (intro z h2 h3; (simp only [List.forall_mem_cons, List.not_mem_nil, false_implies, implies_true, and_true, ne_eq] at h2); (simp only [List.contains_cons, List.contains_nil, Bool.or_false, Bool.or_eq_false_iff, beq_eq_false_iff_ne, ne_eq] at h3); first | rfl | (simp only [kstB, h2, h3, if_false, List.contains_nil, List.contains_cons, Bool.false_eq_true]; done) | (simp [kstB, h2, h3]; done)))
local macro_rules | `(tactic| walk_at "m_turn") => `(tactic| (try simp only [List.contains_nil, Bool.false_eq_true, if_false] at *))
local macro_rules | `(tactic| walk_at "ite") => `(tactic| first
  | (refine ite_neg (by k_dflt ((try simp only [decide_eq_true_eq, bne_iff_ne, ne_eq, Bool.not_eq_true', bne_eq_false_iff_eq, Bool.not_eq_true, Bool.not_eq_eq_eq_not, Bool.not_true, not_true, not_false_iff]); first | done | omega)) ?_)
  | (refine ite_pos (by k_dflt ((try simp only [decide_eq_true_eq, bne_iff_ne, ne_eq, Bool.not_eq_true', bne_eq_false_iff_eq, Bool.not_eq_true, Bool.not_eq_eq_eq_not, Bool.not_true, not_true, not_false_iff]); first | done | omega)) ?_))
local macro_rules | `(tactic| walk_at "m_steps") => `(tactic| repeat' (first | (k_unfold; (try dsimp only)) | (walk_at "m_calls") | (walk_at "m_guard"; walk1) | (dsimp only; walk_at "m_guard"; walk1)))
local macro_rules | `(tactic| walk_at "subscriptTail Name Slice str ref") => `(tactic| ((with_reducible show wpAny _ _ (subscriptTail _ (Expr.Slice none (some (Expr.BoolOp _ _ _)) none _) _ _) _ _ _); (with_reducible rename Fr _ _ _ _ => F'); (with_reducible rename News _ _ _ _ => N'); (refine slice_strN_nn (hsz := ?hsz) (s := ⟨_, _, _, _, _⟩) F' N' ?_); (case hsz => size_fits); intro _ _ _ _ _))
local macro_rules | `(tactic| walk_at "m_room") => `(tactic| (dsimp only [Around.deeper, Around.in1]; omega))
/-- what a call of the def at `f` gives, said without the caller's frame: all that stood stands, and `Out` holds -/
def Con (w : World) (f : Addr) (rm : Nat) (vs : List Value) (Pre : Heap → Prop) (Out : Heap → Value → Heap → Prop) : Prop :=
  ∀ (mean : ExcName → Option Value) (mg mb : Str → Option Value) (A : Around) (s : Shared) (Q E : Value → Shared → Prop),
    A.handled = none → A.depth + rm < recursionLimit → A.units + 8 * rm < cLine →
    (hd.heap_39 w.params).In s.heap → Top hd.view_39 (looseW hd.view_39 []) mean mg mb s.heap → Pre s.heap →
    (∀ r h' tk', (∀ b o, s.heap.get? b = some o → h'.get? b = some o) → Out s.heap r h' → Q r { s with heap := h', toks := tk' }) →
    wpAny (model PySem.Challenge.rw_wu0037_01.row.prog w) A (call (.ref f) vs) Q E s

theorem lookup_kstB (l : List (Str × Value)) : (fun y => l.lookup y) = kstB (fun _ => none) l := by
  funext y
  induction l with
  | nil => rfl
  | cons p r ih =>
    obtain ⟨x, v⟩ := p
    show _ = if y = x then some v else kstB (fun _ => none) r y
    rw [List.lookup_cons, ← ih]
    by_cases e : y = x
    · subst e; simp
    · rw [if_neg e, beq_false_of_ne e]
/-- the way into a def without cells: the heap at the call is the ground -/
theorem enter {prog : Program} {w : World} {K : Frag} {p : Program} {loose : List Str} {mean : ExcName → Option Value} {mg mb : Str → Option Value} {A : Around} {s : Shared}
    {Q E : Value → Shared → Prop} {name qual : Str} {params : Arguments} {body : List Stmt} {scope : Scope} {dV kV doc pm cdv ct oc : Value} {an od : Option Addr} {osl : Array (Option Value)} {f : Addr} {vs : List Value} {binds : List (Str × Value)}
    (X : K.In s.heap) (T : Top p loose mean mg mb s.heap)
    (ho : K.lookup f = some ⟨oc, od, .func (fnOf name qual params body scope dV kV doc pm an cdv ct), osl⟩) (hcd : codeIn K cdv qual = true) (hroom : A.depth < recursionLimit)
    (hbind : BindsTo s (fnOf name qual params body scope dV kV doc pm an cdv ct) ⟨vs, []⟩ binds) (hloc : ∀ y ∈ binds, scope.names.lookup y.1 = some .local)
    (h : ∀ L h₁, Fr s.heap L h₁ (kstB (fun _ => none) binds.reverse) → News s.heap L h₁ [] →
      wpAny (model prog w) (A.deeper (envOf qual scope L f cdv)) (execs body (envOf qual scope L f cdv))
        (fun fl s' => Q (match fl with | .ret v => v | _ => .none) s') (fun _ _ => False)
        { s with heap := h₁, toks := s.toks + binds.length })
    (hco : scope.isCoroutine = false) (hgen : scope.isGenerator = false) (hk : scope.kind = .function)
    (hcell : ∀ x ∈ scope.names, x.2 ≠ .cell) : wpAny (model prog w) A (call (.ref f) vs) Q E s := by
  refine wpAny_call ?_
  refine codeAny_call_def (fd := fnOf name qual params body scope dV kV doc pm an cdv ct) (body := body) (binds := binds) hroom (X _ _ ho) rfl T.nolimit (codeRec_of X hcd) rfl hbind hcell hloc (fun h₁ hns hk₁ => ?_) hco hgen hk
  rw [lookup_kstB] at hns
  exact wpAny_mono (h s.heap.objs.size h₁ ⟨hns, hk₁, Nat.le_refl _⟩ News.nil) (fun fl s' hl => hl) fun _ _ y => y.elim

/-- one place where all ways of a tree meet -/
structure Cut {α : Type} (h₀ : Heap) (L : Addr) (m : α → Str → Option Value) (news : List (Addr × Obj)) (s : Shared) (R : α → Prop) (a : α) (s' : Shared) : Prop where
  all : ∃ h' tk', s' = { s with heap := h', toks := tk' } ∧ Fr h₀ L h' (m a) ∧ News h₀ L h' news ∧ R a
theorem cut {α : Type} {M : Model} {A : Around} {t : Sem α} {Q : α → Shared → Prop} {E : Value → Shared → Prop} {s : Shared} {h₀ : Heap} {L : Addr} {m : α → Str → Option Value} {news : List (Addr × Obj)} (R : α → Prop)
    (h : wpAny M A t (Cut h₀ L m news s R) (fun _ _ => False) s)
    (k : ∀ a h' tk', Fr h₀ L h' (m a) → News h₀ L h' news → R a → Q a { s with heap := h', toks := tk' }) : wpAny M A t Q E s :=
  wpAny_mono h (fun a s' c => by obtain ⟨h', tk', rfl, F, N, r⟩ := c.all; exact k a h' tk' F N r) fun _ _ x => x.elim
theorem cut0 {α : Type} {M : Model} {A : Around} {t : Sem α} {Q : α → Shared → Prop} {E : Value → Shared → Prop} {s : Shared} {h₀ : Heap} {L : Addr} {m : Str → Option Value} {news : List (Addr × Obj)}
    (F : Fr h₀ L s.heap m) (N : News h₀ L s.heap news) (R : α → Prop)
    (h : wpAny M A t (Cut h₀ L (fun _ => m) news s R) (fun _ _ => False) s)
    (k : ∀ a h' tk', Fr h₀ L h' m → News h₀ L h' news → R a → Q a { s with heap := h', toks := tk' }) : wpAny M A t Q E s := cut R h k
theorem cut_end {α : Type} {h₀ : Heap} {L : Addr} {m : α → Str → Option Value} {news : List (Addr × Obj)} {s : Shared} {R : α → Prop} {a : α} {h' : Heap} {tk' : Nat}
    (F : Fr h₀ L h' (m a)) (N : News h₀ L h' news) (r : R a) : Cut h₀ L m news s R a { s with heap := h', toks := tk' } := ⟨h', tk', rfl, F, N, r⟩

section
variable {prog : Program} {w : World} {A : Around} {E : Value → Shared → Prop} {s : Shared} {env : Env} {h₀ : Heap} {x : Str} {body : List Stmt} {Q : Flow → Shared → Prop}
/-- what holds between the turns: the ledger, the named locals, the word -/
def MSt {σ : Type} (Led : σ → List (Addr × Obj)) (ps : σ → List (Str × Value)) (x : Str) (stored : List Str) (m₀ : Str → Option Value) (P : Nat → σ → Prop) (i : Nat) (m : Str → Option Value) (nx : List (Addr × Obj)) : Prop :=
  ∃ c : σ, nx = Led c ∧ (∀ p ∈ ps c, m p.1 = some p.2) ∧ (∀ z, z ≠ x → (∀ p ∈ ps c, z ≠ p.1) → stored.contains z = false → m z = m₀ z) ∧ P i c
theorem mst_end {σ : Type} {Led : σ → List (Addr × Obj)} {ps : σ → List (Str × Value)} {stored : List Str} {m₀ : Str → Option Value} {P : Nat → σ → Prop} {i : Nat} (c : σ) {L : Addr} {m' : Str → Option Value} {own news' : List (Addr × Obj)} {adr : List Addr} {s₁ : Shared} {h' : Heap} {tk : Nat}
    (F : Fr h₀ L h' m') (N : News h₀ L h' news') (hn : ∀ p ∈ Led c, p ∈ news') (ho : ∀ p ∈ own, p ∈ news') (ha : (Led c).map (·.1) = adr) (hk : ∀ p ∈ ps c, m' p.1 = some p.2) (hr : ∀ z, z ≠ x → (∀ p ∈ ps c, z ≠ p.1) → stored.contains z = false → m' z = m₀ z) (hp : P i c) :
    InvEndN h₀ L (MSt Led ps x stored m₀ P i) own adr s₁ { s₁ with heap := h', toks := tk } :=
  InvEndN.intro F N ⟨c, rfl, hk, hr, hp⟩ ha hn ho

/-- a for over a list that stood when the def was entered, whatever its items are -/
theorem m_list {σ : Type} {l : Addr} {vs : List Value} {m₀ : Str → Option Value} (Led : σ → List (Addr × Obj)) (ps : σ → List (Str × Value)) (stored : List Str) (P : Nat → σ → Prop) (c₀ : σ)
    (hh : A.handled = none) (hl : h₀.IsList l vs.toArray) (F : Fr h₀ env.locals s.heap m₀) (N : News h₀ env.locals s.heap (Led c₀)) (hk : ∀ p ∈ ps c₀, m₀ p.1 = some p.2) (hp : P 0 c₀)
    (turn : ∀ (c : σ) (i : Nat) v (u : Str → Option Value) h tk own, vs[i]? = some v → OwnOff own ((Led c₀).map (·.1)) → P i c →
      Fr h₀ env.locals h (fun y => if y = x then some v else kstB (fun z => if stored.contains z then u z else m₀ z) (ps c) y) → News h₀ env.locals h (Led c ++ own) →
      wpAny (model prog w) A (execs body env) (InvPostN h₀ env.locals (MSt Led ps x stored m₀ P (i + 1)) own ((Led c₀).map (·.1)) { s with heap := h, toks := tk } Q) E { s with heap := h, toks := tk })
    (done : ∀ (c : σ) (u : Str → Option Value) h tk, P vs.length c → Fr h₀ env.locals h (fun y => if y = x then u y else kstB (fun z => if stored.contains z then u z else m₀ z) (ps c) y) → News h₀ env.locals h (Led c) → Q .next { s with heap := h, toks := tk }) :
    wpAny (model prog w) A (pyIter (.ref l)) (fun it s₂ => LoopAtV prog w A h₀ env x body Q E it s₂) E s := by
  have hls : s.heap.IsList l vs.toArray := hl.at fun o e => F.keep l o e
  obtain ⟨ol, hol, _⟩ := id hl
  have hlt : l < h₀.objs.size := Heap.lt_size hol
  have hl1 : l < env.locals := Nat.lt_of_lt_of_le hlt F.above
  have hl2 : l < s.heap.objs.size := Nat.lt_trans hl1 F.ns.lt
  refine wpAny_pyIter_list hls ?_
  have W := Walks.list (prog := prog) (w := w) hh s.heap.objs.size l (Nat.ne_of_lt hl2) vs.toArray
  refine loop_invN (MSt Led ps x stored m₀ P) W ?_ ?_ ?_ ?_ ⟨⟨_, Heap.get?_push_size _ rfl, rfl, rfl⟩, hls.at fun o e => Heap.get?_push_of_some _ e⟩ (F.push _) (fun p hp => ⟨Heap.get?_push_of_some _ (N p hp).1, (N p hp).2⟩) ⟨c₀, rfl, hk, fun _ _ _ _ => rfl, hp⟩ ?_ ?_
  · intro hm
    rcases List.mem_cons.mp hm with e | hm
    · exact absurd F.ns.lt (e ▸ Nat.lt_irrefl _)
    · exact absurd hl1 ((List.mem_singleton.mp hm) ▸ Nat.lt_irrefl _)
  · intro b hb
    rw [List.mem_singleton.mp hb]
    exact next_is_new F
  · intro p hp hI
    exact absurd (Heap.lt_size (N p hp).1) ((List.mem_singleton.mp hI) ▸ Nat.lt_irrefl _)
  · intro q hq hI
    rcases List.mem_cons.mp hI with e | hm
    · exact absurd (Heap.lt_size (N q hq).1) (e ▸ Nat.lt_irrefl _)
    · have h3 := (N q hq).2.2
      rw [List.mem_singleton.mp hm, hol] at h3
      cases h3
  · rintro i v m₁ nx h tk own _ hv _ hoff ⟨c, rfl, h1, h2, hp'⟩ F₁ N₁
    exact turn c i v m₁ h tk own (by simpa using hv) hoff hp' (kst_fr h1 h2 F₁) N₁
  · rintro m₁ nx h tk ⟨c, rfl, h1, h2, hp'⟩ F₁ N₁
    exact done c m₁ h tk (by simpa using hp') (kst_frOut h1 h2 F₁) N₁

/-- a for over a range from nought -/
theorem m_range {σ : Type} {r : Addr} {a₀ b₀ : Int} {t₀ u₀ v₀ : Tok} {n : Nat} {m₀ : Str → Option Value} (Led : σ → List (Addr × Obj)) (ps : σ → List (Str × Value)) (stored : List Str) (P : Nat → σ → Prop) (c₀ : σ)
    (hh : A.handled = none) (hr : IsRange s.heap r a₀ b₀ 1 t₀ u₀ v₀) (hsmall : Builtin.Range.small a₀ b₀ 1 = true) (hn : Builtin.Range.rangeSize a₀ b₀ 1 = (n : Int)) (F : Fr h₀ env.locals s.heap m₀) (N : News h₀ env.locals s.heap (Led c₀)) (hk : ∀ p ∈ ps c₀, m₀ p.1 = some p.2) (hp : P 0 c₀)
    (turn : ∀ (c : σ) (i : Nat) t (u : Str → Option Value) h tk own, i < n → OwnOff own ((Led c₀).map (·.1)) → P i c →
      Fr h₀ env.locals h (fun y => if y = x then some (.int (a₀ + (i : Int)) t) else kstB (fun z => if stored.contains z then u z else m₀ z) (ps c) y) → News h₀ env.locals h (Led c ++ own) →
      wpAny (model prog w) A (execs body env) (InvPostN h₀ env.locals (MSt Led ps x stored m₀ P (i + 1)) own ((Led c₀).map (·.1)) { s with heap := h, toks := tk } Q) E { s with heap := h, toks := tk })
    (done : ∀ (c : σ) (u : Str → Option Value) h tk, P n c → Fr h₀ env.locals h (fun y => if y = x then u y else kstB (fun z => if stored.contains z then u z else m₀ z) (ps c) y) → News h₀ env.locals h (Led c) → Q .next { s with heap := h, toks := tk }) :
    wpAny (model prog w) A (pyIter (.ref r)) (fun it s₂ => LoopAtV prog w A h₀ env x body Q E it s₂) E s := by
  refine wpAny_pyIter_range hr hsmall ?_
  have W : Walks prog w A s.heap.objs.size [s.heap.objs.size] [s.heap.objs.size] n (fun i v => i < n ∧ ∃ t, v = .int (a₀ + i * 1) t)
      (fun i h => IsRangeIter h s.heap.objs.size (a₀ + (i : Nat) * 1) ((n : Int) - (i : Nat)) 1) := (Walks.range hh _ a₀ 1 n).bound
  refine loop_invN (MSt Led ps x stored m₀ P) W ?_ ?_ ?_ ?_ (by show IsRangeIter _ _ _ _ _; rw [hn]; simpa using Heap.get?_push_size _ rfl) (F.push _) (fun p hp => ⟨Heap.get?_push_of_some _ (N p hp).1, (N p hp).2⟩) ⟨c₀, rfl, hk, fun _ _ _ _ => rfl, hp⟩ ?_ ?_
  · intro hm
    exact absurd F.ns.lt ((List.mem_singleton.mp hm) ▸ Nat.lt_irrefl _)
  · intro b hb
    rw [List.mem_singleton.mp hb]
    exact next_is_new F
  · intro p hp hI
    exact absurd (Heap.lt_size (N p hp).1) ((List.mem_singleton.mp hI) ▸ Nat.lt_irrefl _)
  · intro p hp hI
    exact absurd (Heap.lt_size (N p hp).1) ((List.mem_singleton.mp hI) ▸ Nat.lt_irrefl _)
  · rintro i v m₁ nx h tk own hi ⟨_, t, rfl⟩ _ hoff ⟨c, rfl, h1, h2, hp'⟩ F₁ N₁
    have e1 : a₀ + (i : Int) * 1 = a₀ + (i : Int) := by omega
    rw [e1] at F₁
    exact turn c i t m₁ h tk own hi hoff hp' (kst_fr h1 h2 F₁) N₁
  · rintro m₁ nx h tk ⟨c, rfl, h1, h2, hp'⟩ F₁ N₁
    exact done c m₁ h tk hp' (kst_frOut h1 h2 F₁) N₁
end
/-- a call by what is said of its def -/
theorem use_con {w : World} {f : Addr} {rm : Nat} {vs : List Value} {Pre : Heap → Prop} {Out : Heap → Value → Heap → Prop} (C : Con w f rm vs Pre Out)
    {mean : ExcName → Option Value} {mg mb : Str → Option Value} {A : Around} {s : Shared} {Q E : Value → Shared → Prop} {h₀ : Heap} {L : Addr} {m : Str → Option Value} {news : List (Addr × Obj)}
    (X : (hd.heap_39 w.params).In h₀) (T : Top hd.view_39 (looseW hd.view_39 []) mean mg mb h₀) (F : Fr h₀ L s.heap m) (N : News h₀ L s.heap news)
    (hA : A.handled = none) (hr : A.depth + rm < recursionLimit) (hu : A.units + 8 * rm < cLine) (hp : Pre s.heap)
    (k : ∀ r h' tk', Fr h₀ L h' m → News h₀ L h' news → (∀ b o, s.heap.get? b = some o → h'.get? b = some o) → Out s.heap r h' → Q r { s with heap := h', toks := tk' }) :
    wpAny (model PySem.Challenge.rw_wu0037_01.row.prog w) A (call (.ref f) vs) Q E s :=
  C mean mg mb A s Q E hA hr hu (X.keeps F.keep) (T.keeps F.keep) hp fun r h' tk' hk ho => k r h' tk' (F.keeps hk) (N.grown hk) hk ho

theorem fr_eq {h₀ h : Heap} {L : Addr} {m m' : Str → Option Value} (F : Fr h₀ L h m) (e : ∀ y, m' y = m y) : Fr h₀ L h m' := by
  have : m' = m := funext e
  rw [this]; exact F
/-- all ways meet, a word chosen by the way -/
structure CutE {α θ : Type} (h₀ : Heap) (L : Addr) (m : θ → Str → Option Value) (news : List (Addr × Obj)) (s : Shared) (R : θ → α → Prop) (a : α) (s' : Shared) : Prop where
  all : ∃ c h' tk', s' = { s with heap := h', toks := tk' } ∧ Fr h₀ L h' (m c) ∧ News h₀ L h' news ∧ R c a
theorem cutE {α θ : Type} {M : Model} {A : Around} {t : Sem α} {Q : α → Shared → Prop} {E : Value → Shared → Prop} {s : Shared} {h₀ : Heap} {L : Addr} (m : θ → Str → Option Value) (news : List (Addr × Obj)) (R : θ → α → Prop)
    (h : wpAny M A t (CutE h₀ L m news s R) (fun _ _ => False) s)
    (k : ∀ c a h' tk', Fr h₀ L h' (m c) → News h₀ L h' news → R c a → Q a { s with heap := h', toks := tk' }) : wpAny M A t Q E s :=
  wpAny_mono h (fun a s' z => by obtain ⟨c, h', tk', rfl, F, N, r⟩ := z.all; exact k c a h' tk' F N r) fun _ _ x => x.elim
theorem cutE_end {α θ : Type} {h₀ : Heap} {L : Addr} {m : θ → Str → Option Value} {news : List (Addr × Obj)} {s : Shared} {R : θ → α → Prop} {a : α} {h' : Heap} {tk' : Nat} (c : θ)
    (F : Fr h₀ L h' (m c)) (N : News h₀ L h' news) (r : R c a) : CutE h₀ L m news s R a { s with heap := h', toks := tk' } := ⟨c, h', tk', rfl, F, N, r⟩

/-- list(range(2, 4, 2)) is a new list of the one int 2 -/
theorem list_two {prog : Program} {w : World} {A : Around} {E : Value → Shared → Prop} {s : Shared} {h₀ : Heap} {L : Addr} {m : Str → Option Value} {news : List (Addr × Obj)} {r : Addr} {b : Int} {t u v : Tok} {Q : Value → Shared → Prop} (hh : A.handled = none) (F : Fr h₀ L s.heap m) (N : News h₀ L s.heap news)
    (hr : IsRange s.heap r 2 b 2 t u v) (hb : b = 4)
    (k : ∀ D c tk' t' h', Fr h₀ L h' m → News h₀ L h' ((D, W.listOf #[.int 2 t'] c) :: news) → (∀ p ∈ news, p.1 ≠ D) → Q (.ref D) { s with heap := h', toks := tk' }) :
    wpAny (model prog w) A (call (.type "list") [.ref r]) Q E s := by
  subst hb
  refine list_rangeD (n := 1) hh F N hr (by decide) (by decide) (by decide) fun h' tk ys F' N' _ hn _ hp hc => ?_
  cases hc with
  | cons h1 h2 =>
    cases h2
    cases h1 with
    | int i t' =>
      obtain ⟨⟨c, hc⟩, hne⟩ := hp
      refine k _ c tk t' h' F' (fun p hp => ?_) (fun p hp => hne p hp)
      rcases List.mem_cons.mp hp with rfl | hp
      · exact ⟨hc, fun e => absurd F.ns.lt (by rw [← e]; exact Nat.lt_irrefl _), hn⟩
      · exact N' p hp
theorem cutAB {M : Model} {A : Around} {t : Sem Flow} {Q : Flow → Shared → Prop} {E : Value → Shared → Prop} {s : Shared} {h₀ : Heap} {L : Addr} {m : Str → Option Value} (_F : Fr h₀ L s.heap m) (x1 x2 : Str)
    (h : wpAny M A t (CutE h₀ L (fun (c : Tok × Tok) y => if y = Str.ofString "a" then some (.str x1 c.1) else if y = Str.ofString "b" then some (.str x2 c.2) else m y) [] s (fun _ f => f = Flow.next)) (fun _ _ => False) s)
    (k : ∀ t1 t2 h' tk', Fr h₀ L h' (fun y => if y = Str.ofString "a" then some (.str x1 t1) else if y = Str.ofString "b" then some (.str x2 t2) else m y) → News h₀ L h' [] → Q .next { s with heap := h', toks := tk' }) : wpAny M A t Q E s :=
  cutE _ _ _ h fun c a h' tk' F N e => by subst e; exact k c.1 c.2 h' tk' F N
theorem cutAB_end {s : Shared} {h₀ h' : Heap} {L : Addr} {tk' : Nat} {m m' : Str → Option Value} {x1 x2 : Str} {t1 t2 : Tok} (F : Fr h₀ L h' m')
    (ha : m' (Str.ofString "a") = some (.str x1 t1)) (hb : m' (Str.ofString "b") = some (.str x2 t2)) (hr : ∀ y, y ≠ Str.ofString "a" → y ≠ Str.ofString "b" → m' y = m y) :
    CutE h₀ L (fun (c : Tok × Tok) y => if y = Str.ofString "a" then some (.str x1 c.1) else if y = Str.ofString "b" then some (.str x2 c.2) else m y) [] s (fun _ f => f = Flow.next) Flow.next { s with heap := h', toks := tk' } := by
  refine cutE_end (t1, t2) (fr_eq F fun y => ?_) News.nil rfl
  by_cases h1 : y = Str.ofString "a"
  · rw [if_pos h1, h1, ha]
  · rw [if_neg h1]
    by_cases h2 : y = Str.ofString "b"
    · rw [if_pos h2, h2, hb]
    · rw [if_neg h2, hr y h1 h2]
section
variable {prog : Program} {w : World} {A : Around} {E : Value → Shared → Prop} {s : Shared} {env : Env} {h₀ : Heap} {x : Str} {body : List Stmt} {Q : Flow → Shared → Prop}
theorem m_range0 {σ : Type} {r : Addr} {b : Int} {t₀ u₀ v₀ : Tok} (n : Nat) {m₀ : Str → Option Value} (Led : σ → List (Addr × Obj)) (ps : σ → List (Str × Value)) (stored : List Str) (P : Nat → σ → Prop) (c₀ : σ)
    (hh : A.handled = none) (hr : IsRange s.heap r 0 b 1 t₀ u₀ v₀) (hb : b = (n : Int)) (hsmall : n < 1000) (F : Fr h₀ env.locals s.heap m₀) (N : News h₀ env.locals s.heap (Led c₀)) (hk : ∀ p ∈ ps c₀, m₀ p.1 = some p.2) (hp : P 0 c₀)
    (turn : ∀ (c : σ) (i : Nat) t (u : Str → Option Value) h tk own, i < n → OwnOff own ((Led c₀).map (·.1)) → P i c →
      Fr h₀ env.locals h (fun y => if y = x then some (.int (i : Int) t) else kstB (fun z => if stored.contains z then u z else m₀ z) (ps c) y) → News h₀ env.locals h (Led c ++ own) →
      wpAny (model prog w) A (execs body env) (InvPostN h₀ env.locals (MSt Led ps x stored m₀ P (i + 1)) own ((Led c₀).map (·.1)) { s with heap := h, toks := tk } Q) E { s with heap := h, toks := tk })
    (done : ∀ (c : σ) (u : Str → Option Value) h tk, P n c → Fr h₀ env.locals h (fun y => if y = x then u y else kstB (fun z => if stored.contains z then u z else m₀ z) (ps c) y) → News h₀ env.locals h (Led c) → Q .next { s with heap := h, toks := tk }) :
    wpAny (model prog w) A (pyIter (.ref r)) (fun it s₂ => LoopAtV prog w A h₀ env x body Q E it s₂) E s := by
  subst hb
  refine m_range Led ps stored P c₀ hh hr (small_one (by omega) (by omega) (by omega) (by omega)) (by rw [rangeSize_nat]; omega) F N hk hp (fun c i t u h tk own hi ho hP F' N' => ?_) done
  rw [Int.zero_add] at F'
  exact turn c i t u h tk own hi ho hP F' N'
end
section
variable {prog : Program} {w : World} {A : Around} {E : Value → Shared → Prop} {s : Shared} {env : Env} {h₀ : Heap} {x : Str} {body : List Stmt} {Q : Flow → Shared → Prop}
/-- the same, where one object at the ledger's head turns -/
theorem m_range0O {σ : Type} {r : Addr} {b : Int} {t₀ u₀ v₀ : Tok} {D : Addr} {o₀ : Obj} {rest : List (Addr × Obj)} (n : Nat) {m₀ : Str → Option Value} (F : Fr h₀ env.locals s.heap m₀) (N : News h₀ env.locals s.heap ((D, o₀) :: rest)) (Ob : σ → Obj) (ps : σ → List (Str × Value)) (stored : List Str) (P : Nat → σ → Prop) (c₀ : σ) (hO : Ob c₀ = o₀)
    (hh : A.handled = none) (hr : IsRange s.heap r 0 b 1 t₀ u₀ v₀) (hb : b = (n : Int)) (hsmall : n < 1000) (hk : ∀ p ∈ ps c₀, m₀ p.1 = some p.2) (hp : P 0 c₀)
    (turn : ∀ (c : σ) (i : Nat) t (u : Str → Option Value) h tk own, i < n → OwnOff own (D :: rest.map (·.1)) → P i c →
      Fr h₀ env.locals h (fun y => if y = x then some (.int (i : Int) t) else kstB (fun z => if stored.contains z then u z else m₀ z) (ps c) y) → News h₀ env.locals h ((D, Ob c) :: (rest ++ own)) →
      wpAny (model prog w) A (execs body env) (InvPostN h₀ env.locals (MSt (fun c => (D, Ob c) :: rest) ps x stored m₀ P (i + 1)) own (D :: rest.map (·.1)) { s with heap := h, toks := tk } Q) E { s with heap := h, toks := tk })
    (done : ∀ (c : σ) (u : Str → Option Value) h tk, P n c → Fr h₀ env.locals h (fun y => if y = x then u y else kstB (fun z => if stored.contains z then u z else m₀ z) (ps c) y) → News h₀ env.locals h ((D, Ob c) :: rest) → Q .next { s with heap := h, toks := tk }) :
    wpAny (model prog w) A (pyIter (.ref r)) (fun it s₂ => LoopAtV prog w A h₀ env x body Q E it s₂) E s := by
  subst hO
  exact m_range0 n (fun c => (D, Ob c) :: rest) ps stored P c₀ hh hr hb hsmall F N hk hp turn done
theorem m_listO {σ : Type} {l : Addr} {vs : List Value} {D : Addr} {o₀ : Obj} {rest : List (Addr × Obj)} {m₀ : Str → Option Value} (F : Fr h₀ env.locals s.heap m₀) (N : News h₀ env.locals s.heap ((D, o₀) :: rest)) (Ob : σ → Obj) (ps : σ → List (Str × Value)) (stored : List Str) (P : Nat → σ → Prop) (c₀ : σ) (hO : Ob c₀ = o₀)
    (hh : A.handled = none) (hl : h₀.IsList l vs.toArray) (hk : ∀ p ∈ ps c₀, m₀ p.1 = some p.2) (hp : P 0 c₀)
    (turn : ∀ (c : σ) (i : Nat) v (u : Str → Option Value) h tk own, vs[i]? = some v → OwnOff own (D :: rest.map (·.1)) → P i c →
      Fr h₀ env.locals h (fun y => if y = x then some v else kstB (fun z => if stored.contains z then u z else m₀ z) (ps c) y) → News h₀ env.locals h ((D, Ob c) :: (rest ++ own)) →
      wpAny (model prog w) A (execs body env) (InvPostN h₀ env.locals (MSt (fun c => (D, Ob c) :: rest) ps x stored m₀ P (i + 1)) own (D :: rest.map (·.1)) { s with heap := h, toks := tk } Q) E { s with heap := h, toks := tk })
    (done : ∀ (c : σ) (u : Str → Option Value) h tk, P vs.length c → Fr h₀ env.locals h (fun y => if y = x then u y else kstB (fun z => if stored.contains z then u z else m₀ z) (ps c) y) → News h₀ env.locals h ((D, Ob c) :: rest) → Q .next { s with heap := h, toks := tk }) :
    wpAny (model prog w) A (pyIter (.ref l)) (fun it s₂ => LoopAtV prog w A h₀ env x body Q E it s₂) E s := by
  subst hO
  exact m_list (fun c => (D, Ob c) :: rest) ps stored P c₀ hh hl F N hk hp turn done
/-- a turn's end, the head object turned -/
theorem mst_endO {σ : Type} {Ob : σ → Obj} {ps : σ → List (Str × Value)} {stored : List Str} {m₀ : Str → Option Value} {P : Nat → σ → Prop} {i : Nat} {D : Addr} {o : Obj} {rest : List (Addr × Obj)} (c : σ) {L : Addr} {m' : Str → Option Value} {own : List (Addr × Obj)} {s₁ : Shared} {h' : Heap} {tk : Nat}
    (F : Fr h₀ L h' m') (N : News h₀ L h' ((D, o) :: (rest ++ own))) (ho : Ob c = o) (hk : ∀ p ∈ ps c, m' p.1 = some p.2) (hr : ∀ z, z ≠ x → (∀ p ∈ ps c, z ≠ p.1) → stored.contains z = false → m' z = m₀ z) (hp : P i c) :
    InvEndN h₀ L (MSt (fun c => (D, Ob c) :: rest) ps x stored m₀ P i) own (D :: rest.map (·.1)) s₁ { s₁ with heap := h', toks := tk } := by
  subst ho
  refine mst_end c F N (fun p hp => ?_) (fun p hp => .tail _ (List.mem_append.mpr (.inr hp))) rfl hk hr hp
  rcases List.mem_cons.mp hp with rfl | hp
  · exact .head _
  · exact .tail _ (List.mem_append.mpr (.inl hp))
/-- a new int at the head list's end -/
theorem append_head {m : Str → Option Value} {L D : Addr} {vs : List Value} {n : Nat} {rest : List (Addr × Obj)} {v : Value} {Q : Value → Shared → Prop} (F : Fr h₀ L s.heap m) (N : News h₀ L s.heap ((D, W.listOf vs.toArray n) :: rest)) (hoff : ∀ p ∈ rest, p.1 ≠ D) (hsz : vs.length < 1000)
    (k : ∀ h' n', Fr h₀ L h' m → News h₀ L h' ((D, W.listOf (vs ++ [v]).toArray n') :: rest) → Q .none { s with heap := h' }) :
    wpAny (model prog w) A (call (.builtin "list.append") [.ref D, v]) Q E s := by
  refine append_K F N (Upd.head hoff) (fun h' F' N' => ?_) ?_
  · refine k h' (n + 1) F' ?_
    rw [List.push_toArray] at N'
    exact N'
  · rw [PySem.sizeLine_eq]; simp; omega
end
/-- so many blanks and a sign behind them -/
def sp (i c : Nat) : Str := ⟨(List.replicate i 32 ++ [c]).toArray⟩
def inks : List Nat := [120, 88, 121]
theorem sl_from : ∀ i < 6, ∀ c ∈ inks, ∀ p < i + 1, Txt.slice (sp i c) (some ((p : Nat) : Int)) none = sp (i - p) c := by decide +kernel
theorem it_at : ∀ i < 6, ∀ c ∈ inks, ∀ p < i + 1, Txt.item (sp i c) ((p : Nat) : Int) = ⟨#[if p < i then 32 else c]⟩ := by decide +kernel
theorem sp_len (i c : Nat) : (sp i c).length = i + 1 := by simp [sp, Str.length]
theorem pre_test' : ∀ i < 6, ∀ j < 6, ∀ ca ∈ inks, ∀ cb ∈ inks, ∀ p < 6, (p ≤ i ∧ p ≤ j ∧ (sp i ca == sp j cb) = false) →
    (Txt.item (sp i ca) ((p : Nat) : Int) == Txt.item (sp j cb) ((p : Nat) : Int)) = decide (p < i ∧ p < j) := by
  set_option synthInstance.maxSize 1000 in
  decide +kernel
theorem pre_test {i j ca cb p : Nat} (hi : i < 6) (hj : j < 6) (ha : ca ∈ inks) (hb : cb ∈ inks) (h1 : p ≤ i) (h2 : p ≤ j) (hn : (sp i ca == sp j cb) = false) :
    (Txt.item (sp i ca) ((p : Nat) : Int) == Txt.item (sp j cb) ((p : Nat) : Int)) = decide (p < i ∧ p < j) := pre_test' i hi j hj ca ha cb hb p (by omega) ⟨h1, h2, hn⟩
theorem post_test : ∀ i < 6, ∀ j < 6, ∀ ca ∈ inks, ∀ cb ∈ inks, (Txt.item (sp i ca) (0 - 1) == Txt.item (sp j cb) (0 - 1)) = decide (ca = cb) := by decide +kernel
theorem sl_last : ∀ i < 6, ∀ c ∈ inks, (Txt.slice (sp i c) none (some (-1))).length = i := by decide +kernel
theorem sl_all : ∀ i < 6, ∀ c ∈ inks, Txt.slice (sp i c) none none = sp i c := by decide +kernel

def priceC (c d : Nat) : Int := if c = d then 0 else if c = 121 ∨ d = 121 then 2 else 1
/-- the distance of two such lines -/
def levV (i ca j cb : Nat) : Int := 2 * (((i : Int) - j).natAbs : Int) + priceC ca cb
theorem price_comm (c d : Nat) : priceC c d = priceC d c := by
  unfold priceC
  by_cases h : c = d
  · subst h; rfl
  · have h' : ¬ d = c := fun e => h e.symm
    rw [if_neg h, if_neg h']
    simp only [or_comm]
theorem lev_same' : ∀ i < 6, ∀ j < 6, ∀ ca ∈ inks, ∀ cb ∈ inks, (sp i ca == sp j cb) = true → levV i ca j cb = 0 := by decide +kernel
theorem lev_same {i j ca cb : Nat} (hi : i < 6) (hj : j < 6) (ha : ca ∈ inks) (hb : cb ∈ inks) (h : (sp i ca == sp j cb) = true) : levV i ca j cb = 0 := lev_same' i hi j hj ca ha cb hb h
theorem lev_min {x y d c z : Int} (h1 : z ≤ x) (h2 : y = z) (h3 : d = z) (h : 0 ≤ c ∧ c ≤ 2) :
    (if d + c < (if [x].getD (Int.toNat 0) 0 < y then [x].getD (Int.toNat 0) 0 else y) + 2 then d + c else (if [x].getD (Int.toNat 0) 0 < y then [x].getD (Int.toNat 0) 0 else y) + 2) = z + c := by
  have e : [x].getD (Int.toNat 0) 0 = x := rfl
  rw [e]
  (repeat' split) <;> omega
def substC (a b : Str) : Int := if a == b then 0 else if Txt.lower a == Txt.lower b then 1 else 2
theorem subst_con (w : World) (a b : Str) (ta tb : Tok) (ha : a.length = 1) (hb : b.length = 1) : Con w 21 1 [.str a ta, .str b tb] (fun _ => True) (fun _ r _ => ∃ t, r = .int (substC a b) t) := by
  unfold Con; k_fill; w_top off
  intro mean mg mb A s Q E hA0 hA1 hA2 X T hp hret
  obtain ⟨ah, ad, af, ag, au⟩ := A
  cases hA0
  dsimp only at hA1 hA2
  refine' enter (binds := [(Str.ofString "ch_a", .str a ta), (Str.ofString "ch_b", .str b tb)]) ?k1 ?k2 ?k6 ?k7 ?k8 ?k9 ?kB ?_ ?c2 ?c3 ?c4 ?c5
  walk_at "m_enter"
  walk_at "m_steps"
  · exact hret _ _ _ (Fr.keep (by k_asm)) ⟨_, by unfold substC; rw [if_pos (by assumption)]⟩
  · exact hret _ _ _ (Fr.keep (by k_asm)) ⟨_, by unfold substC; rw [if_neg (by simp [*]), if_pos (by assumption)]⟩
  · exact hret _ _ _ (Fr.keep (by k_asm)) ⟨_, by unfold substC; rw [if_neg (by simp [*]), if_neg (by simp [*])]⟩
theorem ne_con (w : World) (a b : Str) (ta tb : Tok) : Con w 86 1 [.str a ta, .str b tb] (fun _ => True) (fun _ r _ => r = .bool (!(a == b))) := by
  unfold Con; k_fill; w_top off
  intro mean mg mb A s Q E hA0 hA1 hA2 X T hp hret
  obtain ⟨ah, ad, af, ag, au⟩ := A
  cases hA0
  dsimp only at hA1 hA2
  refine' enter (binds := [(Str.ofString "a", .str a ta), (Str.ofString "b", .str b tb)]) ?k1 ?k2 ?k6 ?k7 ?k8 ?k9 ?kB ?_ ?c2 ?c3 ?c4 ?c5
  walk_at "m_enter"
  walk_at "m_steps"
  · exact hret _ _ _ (Fr.keep (by k_asm)) rfl
theorem iadd_con (w : World) (a b : Int) (ta tb : Tok) : Con w 93 1 [.int a ta, .int b tb] (fun _ => True) (fun _ r _ => ∃ t, r = .int (a + b) t) := by
  unfold Con; k_fill; w_top off
  intro mean mg mb A s Q E hA0 hA1 hA2 X T hp hret
  obtain ⟨ah, ad, af, ag, au⟩ := A
  cases hA0
  dsimp only at hA1 hA2
  refine' enter (binds := [(Str.ofString "a", .int a ta), (Str.ofString "b", .int b tb)]) ?k1 ?k2 ?k6 ?k7 ?k8 ?k9 ?kB ?_ ?c2 ?c3 ?c4 ?c5
  walk_at "m_enter"
  walk_at "m_steps"
  · exact hret _ _ _ (Fr.keep (by k_asm)) ⟨_, rfl⟩
theorem ifloordiv_con (w : World) (a b : Int) (ta tb : Tok) (hb : b = 10) : Con w 100 1 [.int a ta, .int b tb] (fun _ => True) (fun _ r _ => ∃ t, r = .int (a.fdiv b) t) := by
  unfold Con; k_fill; w_top off
  intro mean mg mb A s Q E hA0 hA1 hA2 X T hp hret
  obtain ⟨ah, ad, af, ag, au⟩ := A
  cases hA0
  dsimp only at hA1 hA2
  refine' enter (binds := [(Str.ofString "a", .int a ta), (Str.ofString "b", .int b tb)]) ?k1 ?k2 ?k6 ?k7 ?k8 ?k9 ?kB ?_ ?c2 ?c3 ?c4 ?c5
  walk_at "m_enter"
  walk_at "m_steps"
  · exact hret _ _ _ (Fr.keep (by k_asm)) ⟨_, rfl⟩
theorem imod_con (w : World) (a b : Int) (ta tb : Tok) (hb : b = 10) : Con w 107 1 [.int a ta, .int b tb] (fun _ => True) (fun _ r _ => ∃ t, r = .int (a.fmod b) t) := by
  unfold Con; k_fill; w_top off
  intro mean mg mb A s Q E hA0 hA1 hA2 X T hp hret
  obtain ⟨ah, ad, af, ag, au⟩ := A
  cases hA0
  dsimp only at hA1 hA2
  refine' enter (binds := [(Str.ofString "a", .int a ta), (Str.ofString "b", .int b tb)]) ?k1 ?k2 ?k6 ?k7 ?k8 ?k9 ?kB ?_ ?c2 ?c3 ?c4 ?c5
  walk_at "m_enter"
  walk_at "m_steps"
  · exact hret _ _ _ (Fr.keep (by k_asm)) ⟨_, rfl⟩
theorem imul_con (w : World) (a b : Int) (ta tb : Tok) (h1 : 0 ≤ a ∧ a ≤ 1000) (h2 : 0 ≤ b ∧ b ≤ 1000000) : Con w 114 1 [.int a ta, .int b tb] (fun _ => True) (fun _ r _ => ∃ t, r = .int (a * b) t) := by
  unfold Con; k_fill; w_top off
  intro mean mg mb A s Q E hA0 hA1 hA2 X T hp hret
  obtain ⟨ah, ad, af, ag, au⟩ := A
  cases hA0
  dsimp only at hA1 hA2
  refine' enter (binds := [(Str.ofString "a", .int a ta), (Str.ofString "b", .int b tb)]) ?k1 ?k2 ?k6 ?k7 ?k8 ?k9 ?kB ?_ ?c2 ?c3 ?c4 ?c5
  walk_at "m_enter"
  walk_at "m_steps"
  · exact hret _ _ _ (Fr.keep (by k_asm)) ⟨_, rfl⟩
theorem isub_con (w : World) (a b : Int) (ta tb : Tok) : Con w 121 1 [.int a ta, .int b tb] (fun _ => True) (fun _ r _ => ∃ t, r = .int (a - b) t) := by
  unfold Con; k_fill; w_top off
  intro mean mg mb A s Q E hA0 hA1 hA2 X T hp hret
  obtain ⟨ah, ad, af, ag, au⟩ := A
  cases hA0
  dsimp only at hA1 hA2
  refine' enter (binds := [(Str.ofString "a", .int a ta), (Str.ofString "b", .int b tb)]) ?k1 ?k2 ?k6 ?k7 ?k8 ?k9 ?kB ?_ ?c2 ?c3 ?c4 ?c5
  walk_at "m_enter"
  walk_at "m_steps"
  · exact hret _ _ _ (Fr.keep (by k_asm)) ⟨_, rfl⟩
theorem substC_ink : ∀ c ∈ inks, ∀ d ∈ inks, substC ⟨#[c]⟩ ⟨#[d]⟩ = priceC c d := by decide +kernel
theorem substC_blank : ∀ d ∈ inks, substC ⟨#[32]⟩ ⟨#[d]⟩ = 2 := by decide +kernel
local macro_rules | `(tactic| walk_at "m_calls") => `(tactic| ((with_reducible show wpAny _ _ (call (Value.ref 21) _) _ _ _); (rename Fr _ _ _ _ => Fc); (rename News _ _ _ _ => Nc); (refine use_con (subst_con _ _ _ _ _ (by omega) (by omega)) (by k_asm) (by k_asm) Fc Nc rfl (by walk_at "m_room") (by walk_at "m_room") trivial ?_); rintro r h' tk' F' N' - ⟨t', e'⟩; subst e'; k_sweep))
local macro_rules | `(tactic| walk_at "m_calls") => `(tactic| ((with_reducible show wpAny _ _ (call (Value.ref 86) _) _ _ _); (rename Fr _ _ _ _ => Fc); (rename News _ _ _ _ => Nc); (refine use_con (ne_con _ _ _ _ _) (by k_asm) (by k_asm) Fc Nc rfl (by walk_at "m_room") (by walk_at "m_room") trivial ?_); rintro r h' tk' F' N' - e'; subst e'; k_sweep))
local macro_rules | `(tactic| walk_at "m_calls") => `(tactic| ((with_reducible show wpAny _ _ (call (Value.ref 93) _) _ _ _); (rename Fr _ _ _ _ => Fc); (rename News _ _ _ _ => Nc); (refine use_con (iadd_con _ _ _ _ _) (by k_asm) (by k_asm) Fc Nc rfl (by walk_at "m_room") (by walk_at "m_room") trivial ?_); rintro r h' tk' F' N' - ⟨t', e'⟩; subst e'; k_sweep))
local macro_rules | `(tactic| walk_at "m_calls") => `(tactic| ((with_reducible show wpAny _ _ (call (Value.ref 100) _) _ _ _); (rename Fr _ _ _ _ => Fc); (rename News _ _ _ _ => Nc); (refine use_con (ifloordiv_con _ _ _ _ _ rfl) (by k_asm) (by k_asm) Fc Nc rfl (by walk_at "m_room") (by walk_at "m_room") trivial ?_); rintro r h' tk' F' N' - ⟨t', e'⟩; subst e'; k_sweep))
local macro_rules | `(tactic| walk_at "m_calls") => `(tactic| ((with_reducible show wpAny _ _ (call (Value.ref 107) _) _ _ _); (rename Fr _ _ _ _ => Fc); (rename News _ _ _ _ => Nc); (refine use_con (imod_con _ _ _ _ _ rfl) (by k_asm) (by k_asm) Fc Nc rfl (by walk_at "m_room") (by walk_at "m_room") trivial ?_); rintro r h' tk' F' N' - ⟨t', e'⟩; subst e'; k_sweep))
/-- a fact that omega is not to read -/
structure Kept (p : Prop) : Prop where
  h : p
theorem way_len {i j p : Nat} (hp : p ≤ i ∧ p ≤ j) (hpm : p = min i j) : 2 * ((i - p : Nat) : Int) + 2 * ((j - p : Nat) : Int) = 2 * ((i : Int) - j).natAbs := by omega
theorem lev_con (w : World) (i j ca cb : Nat) (bd : Int) (ta tb tc : Tok) (hi : i < 6) (hj : j < 6) (hca : ca ∈ inks) (hcb : cb ∈ inks) (hbd : 12 ≤ bd ∧ bd ≤ 16) :
    Con w 28 3 [.str (sp i ca) ta, .str (sp j cb) tb, .int bd tc] (fun _ => True) (fun _ r _ => ∃ t, r = .int (levV i ca j cb) t) := by
  have hla := sp_len i ca
  have hlb := sp_len j cb
  generalize ha : sp i ca = a at hla ⊢
  generalize hb : sp j cb = b at hlb ⊢
  unfold Con; k_fill; w_top off
  intro mean mg mb A s Q E hA0 hA1 hA2 X T hp hret
  obtain ⟨ah, ad, af, ag, au⟩ := A
  cases hA0
  dsimp only at hA1 hA2
  refine' enter (binds := [(Str.ofString "a", .str a ta), (Str.ofString "b", .str b tb), (Str.ofString "max_cost", .int bd tc)]) ?k1 ?k2 ?k6 ?k7 ?k8 ?k9 ?kB ?_ ?c2 ?c3 ?c4 ?c5
  walk_at "m_enter"
  walk_at "m_steps"
  · have he : (a == b) = true := by assumption
    have h0 := lev_same hi hj hca hcb (by rw [ha, hb]; exact he)
    exact hret _ _ _ (Fr.keep (by k_asm)) ⟨_, by rw [h0]⟩
  · (try dsimp only)
    have hne : (a == b) = false := by assumption
    refine ksw_while (σ := Nat × Tok) (fun _ => []) (fun c => [(Str.ofString "pre", .int ((c.1 : Nat) : Int) c.2)]) (fun _ => True) [] (fun c => c.1 ≤ i ∧ c.1 ≤ j) (fun c => i - c.1) (0, ?t0) (by assumption) (by assumption) trivial (by kst_all) (by dsimp only; omega) ?turn
    rintro ⟨p, tp⟩ u h tk - hp F N
    k_sweep
    dsimp only at hp F
    simp only [List.contains_nil, Bool.false_eq_true, if_false] at F
    refine cut0 (by exact F) (by exact N) (fun r => r = decide (p < i ∧ p < j)) ?_ ?_
    · walk_at "m_steps"
      all_goals refine cut_end (by k_asm) (by k_asm) ?_
      all_goals (first | (exfalso; omega) | skip)
      all_goals (subst ha hb; rw [← pre_test hi hj hca hcb hp.1 hp.2 hne]; symm; assumption)
    · intro r h' tk' F' N' hr
      k_sweep
      subst hr
      by_cases hc : p < i ∧ p < j
      · rw [decide_eq_true hc, if_pos rfl]
        walk_at "m_steps"
        refine ksw_end (p + 1, _) (by k_asm) (by k_asm) (by kst_in) trivial (by kst_all) (by walk_at "m_same") (by dsimp only; omega) (by dsimp only; omega)
      · rw [decide_eq_false hc, if_neg (by decide)]
        have hpm : p = min i j := by omega
        walk_at "m_steps"
        have e1 : Txt.slice a (some ((p : Nat) : Int)) none = sp (i - p) ca := by rw [← ha]; exact sl_from i hi ca hca p (by omega)
        have e2 : Txt.slice b (some ((p : Nat) : Int)) none = sp (j - p) cb := by rw [← hb]; exact sl_from j hj cb hcb p (by omega)
        rename Fr _ _ _ _ => F2
        rename News _ _ _ _ => N2
        rw [e1, e2] at F2
        clear e1 e2
        have hne2 : ¬ (i - p = j - p ∧ ca = cb) := by
          rintro ⟨h1, h2⟩
          have : i = j := by omega
          subst this h2 ha hb
          simp at hne
        have hz : i - p = 0 ∨ j - p = 0 := by omega
        have hi' : i - p < 6 := by omega
        have hj' : j - p < 6 := by omega
        have hla' := sp_len (i - p) ca
        have hlb' := sp_len (j - p) cb
        have hans : Kept (2 * ((i - p : Nat) : Int) + 2 * ((j - p : Nat) : Int) = 2 * ((i : Int) - j).natAbs) := ⟨way_len hp hpm⟩
        generalize i - p = i' at *
        generalize j - p = j' at *
        generalize ha' : sp i' ca = a' at *
        generalize hb' : sp j' cb = b' at *
        clear hc hpm hp hne hla hlb
        refine ksw_while (σ := Bool × Tok) (fun _ => []) (fun c => [(Str.ofString "post", .int (if c.1 then -1 else 0) c.2)]) (fun _ => True) [] (fun c => c.1 = true → ca = cb) (fun c => if c.1 then 0 else 1) (false, ?t1) (by exact F2) (by exact N2) trivial (by kst_all) (by intro h; cases h) ?turn2
        rintro ⟨q, tq⟩ u2 h2 tk2 - hq F N
        k_sweep
        dsimp only at hq F
        simp only [List.contains_nil, Bool.false_eq_true, if_false] at F
        have k1 : (Txt.slice a' none none).length = i' + 1 := by rw [← ha', sl_all i' hi' ca hca, sp_len]
        have k2 : (Txt.slice b' none none).length = j' + 1 := by rw [← hb', sl_all j' hj' cb hcb, sp_len]
        have k3 : (Txt.slice a' none (some (-1))).length = i' := by rw [← ha', sl_last i' hi' ca hca]
        have k4 : (Txt.slice b' none (some (-1))).length = j' := by rw [← hb', sl_last j' hj' cb hcb]
        have k5 : (Txt.item a' (0 - 1) == Txt.item b' (0 - 1)) = decide (ca = cb) := by rw [← ha', ← hb', post_test i' hi' j' hj' ca hca cb hcb]
        refine cut0 (by exact F) (by exact N) (fun r => r = decide (q = false ∧ ca = cb)) ?_ ?_
        · cases q
          · simp only [Bool.false_eq_true, if_false] at F ⊢
            walk_at "m_steps"
            all_goals refine cut_end (by k_asm) (by k_asm) ?_
            all_goals (simp only [true_and]; rw [← k5]; symm; assumption)
          · simp only [if_true] at F ⊢
            walk_at "m_steps"
            all_goals refine cut_end (by k_asm) (by k_asm) ?_
            all_goals (first | rfl | (simp; done))
        · intro r h' tk' F' N' hr
          k_sweep
          subst hr
          by_cases hc : q = false ∧ ca = cb
          · rw [decide_eq_true hc, if_pos rfl]
            walk_at "m_steps"
            obtain ⟨rfl, hc2⟩ := hc
            refine ksw_end (true, _) (by k_asm) (by k_asm) (by kst_in) trivial (by kst_all) (by walk_at "m_same") (fun _ => hc2) (by simp)
          · rw [decide_eq_false hc, if_neg (by decide)]
            by_cases hcc : ca = cb
            · have hqt : q = true := by cases q <;> simp_all
              subst hqt
              simp only [if_true] at F'
              have hv : (2 * (((Txt.slice a' none (some (-1))).length : Int) + ((Txt.slice b' none (some (-1))).length : Int))) = levV i ca j cb := by
                rw [k3, k4]; unfold levV priceC; rw [if_pos hcc, ← hans.h]; omega
              walk_at "m_steps"
              all_goals exact hret _ _ _ (Fr.keep (by k_asm)) ⟨_, by rw [hv]⟩
            · have hqt : q = false := by cases q <;> simp_all
              subst hqt
              simp only [Bool.false_eq_true, if_false] at F'
              walk_at "m_steps"
              rename Fr _ _ _ _ => F3
              obtain ⟨x1, x2, d, c1, c2, hx1, hx2, hd6, hc1, hc2, hpr, hdd, sw⟩ : ∃ x1 x2 d c1 c2, x1 = sp 0 c1 ∧ x2 = sp d c2 ∧ d < 6 ∧ c1 ∈ inks ∧ c2 ∈ inks ∧ priceC c2 c1 = priceC ca cb ∧ d = i' + j' ∧
                  ((x1 = Txt.slice a' none none ∧ x2 = Txt.slice b' none none ∧ i' = 0) ∨ (x1 = Txt.slice b' none none ∧ x2 = Txt.slice a' none none ∧ j' = 0 ∧ 0 < i')) := by
                by_cases h0 : i' = 0
                · refine ⟨_, _, i' + j', ca, cb, ?_, ?_, by omega, hca, hcb, price_comm _ _, rfl, .inl ⟨rfl, rfl, h0⟩⟩
                  · rw [← ha', sl_all i' hi' ca hca, h0]
                  · rw [← hb', sl_all j' hj' cb hcb, h0, Nat.zero_add]
                · have h1 : j' = 0 := by omega
                  refine ⟨_, _, i' + j', cb, ca, ?_, ?_, by omega, hcb, hca, rfl, rfl, .inr ⟨rfl, rfl, h1, by omega⟩⟩
                  · rw [← hb', sl_all j' hj' cb hcb, h1]
                  · rw [← ha', sl_all i' hi' ca hca, h1, Nat.add_zero]
              refine cutAB F3 x1 x2 ?_ ?_
              · rcases sw with ⟨e1, e2, h0⟩ | ⟨e1, e2, h0, h1⟩
                · subst e1 e2
                  walk1
                  walk_at "m_steps"
                  refine cutAB_end (by k_asm) rfl rfl ?_
                  intro y h1 h2
                  simp only [h1, h2, if_false]
                · subst e1 e2
                  walk1
                  walk_at "m_steps"
                  refine cutAB_end (by k_asm) rfl rfl ?_
                  intro y h1 h2
                  simp only [h1, h2, if_false]
              · clear sw
                intro t1 t2 h' tk' F N
                k_sweep
                have hx1l : x1.length = 1 := by rw [hx1, sp_len]
                have hx2l : x2.length = d + 1 := by rw [hx2, sp_len]
                clear k1 k2 k3 k4 k5 hla' hlb' ha' hb' hz hne2
                walk_at "m_steps"
                refine list_two rfl (by k_asm) (by k_asm) (by k_asm) (by rw [hx1l]; rfl) ?_
                rintro D cc tk' tD h' F N -
                k_sweep
                dsimp only
                walk_at "m_steps"
                rename Fr _ _ _ _ => F4
                refine For_invVF F4 (by exact rfl) (by exact rfl) ?_ (hE := PassesOwn.never)
                walk_at "m_steps"
                rename IsRange _ _ _ _ _ _ _ _ => R5
                rename Fr _ _ _ _ => F5
                rename News _ _ _ _ => N5
                refine m_range0 (d + 1) (σ := Int × Tok × Int × Tok × Nat) (fun c => [(D, W.listOf #[.int c.1 c.2.1] c.2.2.2.2)]) (fun c => [(Str.ofString "result", .int c.2.2.1 c.2.2.2.1)])
                  [Str.ofString "bchar", Str.ofString "distance", Str.ofString "minimum", Str.ofString "index", Str.ofString "substitute", Str.ofString "insert_delete"]
                  (fun t c => (t = 0 ∧ c.1 = 2 ∧ c.2.2.1 = 0) ∨ (1 ≤ t ∧ t ≤ d ∧ c.1 = 2 * (t : Int) ∧ c.2.2.1 = 2 * (t : Int)) ∨ (t = d + 1 ∧ c.2.2.1 = 2 * (d : Int) + priceC c2 c1))
                  (2, tD, 0, ?tr, cc) rfl R5 (by rw [hx2l]) (by omega) F5 N5 (by kst_all) (.inl ⟨rfl, rfl, rfl⟩) ?turn3 ?done3
                case done3 =>
                  rintro ⟨xx, tx, yy, ty, cc'⟩ u h tk hP F N
                  k_sweep
                  dsimp only at hP F N ⊢
                  walk_at "m_steps"
                  have hv : yy = levV i ca j cb := by
                    have hans' := hans.h
                    unfold levV; rw [← hpr]; omega
                  exact hret _ _ _ (Fr.keep (by k_asm)) ⟨_, by rw [hv]⟩
                rintro ⟨xx, tx, yy, ty, cc'⟩ t tt u h tk own ht hoff hP F N
                k_sweep
                dsimp only [List.map_cons, List.map_nil] at hoff
                dsimp only at hP F N ⊢
                simp only [List.cons_append, List.nil_append] at N
                have hxx : 2 * (t : Int) ≤ xx ∧ xx ≤ 12 := by omega
                obtain ⟨cst, hsub, hcst, hcd⟩ : ∃ cst : Int, substC (Txt.item x2 (t : Int)) (Txt.item x1 0) = cst ∧ (0 ≤ cst ∧ cst ≤ 2) ∧ ((t < d ∧ cst = 2) ∨ (t = d ∧ cst = priceC c2 c1)) := by
                  have e0 : Txt.item x1 0 = ⟨#[c1]⟩ := by rw [hx1]; exact it_at 0 (by decide) c1 hc1 0 (by decide)
                  have e1 : Txt.item x2 (t : Int) = ⟨#[if t < d then 32 else c2]⟩ := by rw [hx2]; exact it_at d hd6 c2 hc2 t (by omega)
                  rw [e0, e1]
                  by_cases h : t < d
                  · rw [if_pos h]
                    exact ⟨2, substC_blank c1 hc1, by omega, .inl ⟨h, rfl⟩⟩
                  · rw [if_neg h]
                    refine ⟨_, substC_ink c2 hc2 c1 hc1, ?_, .inr ⟨by omega, rfl⟩⟩
                    unfold priceC; split <;> (try split) <;> omega
                walk_at "m_steps"
                rename Fr _ _ _ _ => F6
                refine For_invVF F6 (by exact rfl) (by exact rfl) ?_ (hE := PassesOwn.never)
                walk_at "m_steps"
                rename IsRange _ _ _ _ _ _ _ _ => R7
                rename Fr _ _ _ _ => F7
                rename News _ _ _ _ => N7
                refine m_range0 1 (σ := Int × Tok × Int × Tok × Int × Tok × Int × Tok × Nat) (fun c => (D, W.listOf #[.int c.1 c.2.1] c.2.2.2.2.2.2.2.2) :: own)
                  (fun c => [(Str.ofString "result", .int c.2.2.1 c.2.2.2.1), (Str.ofString "distance", .int c.2.2.2.2.1 c.2.2.2.2.2.1), (Str.ofString "minimum", .int c.2.2.2.2.2.2.1 c.2.2.2.2.2.2.2.1)])
                  [Str.ofString "substitute", Str.ofString "insert_delete"]
                  (fun k c => (k = 0 ∧ c.1 = xx ∧ c.2.2.1 = (t : Int) * 2 ∧ c.2.2.2.2.1 = (t : Int) * 2 ∧ c.2.2.2.2.2.2.1 = 9223372036854775807) ∨ (k = 1 ∧ c.1 = 2 * (t : Int) + cst ∧ c.2.2.1 = 2 * (t : Int) + cst ∧ c.2.2.2.2.2.2.1 = 2 * (t : Int) + cst))
                  (xx, tx, (t : Int) * 2, ?q1, (t : Int) * 2, ?q2, 9223372036854775807, ?q3, cc') rfl R7 (by rw [hx1l]) (by omega) F7 N7 (by kst_all) (.inl ⟨rfl, rfl, rfl, rfl, rfl⟩) ?turn4 ?done4
                case done4 =>
                  rintro ⟨x3, tx3, y3, ty3, d3, td3, m3, tm3, c3⟩ u3 h3 tk3 hP3 F N
                  k_sweep
                  dsimp only at hP3 F N ⊢
                  walk_at "m_steps"
                  refine mst_end (x3, tx3, _, _, c3) (by k_asm) (by k_asm) (fun p hp => ?_) (fun p hp => .tail _ hp) rfl (by kst_all) (by walk_at "m_same") ?_
                  · rw [List.mem_singleton.mp hp]; exact .head _
                  · dsimp only
                    rcases hP3 with ⟨h0, _⟩ | ⟨_, hx3, hy3, _⟩
                    · cases h0
                    rw [hx3, hy3]
                    clear hP hx3 hy3 hbd hxx
                    rcases hcd with ⟨h0, h1⟩ | ⟨h0, h1⟩
                    · exact .inr (.inl ⟨by omega, by omega, by omega, by omega⟩)
                    · exact .inr (.inr ⟨by omega, by rw [h1, h0]⟩)
                rintro ⟨x3, tx3, y3, ty3, d3, td3, m3, tm3, c3⟩ k3 tt3 u3 h3 tk3 own3 hk3 hoff3 hP3 F N
                k_sweep
                dsimp only [List.map_cons, List.map_nil] at hoff3
                dsimp only at hP3 F N ⊢
                simp only [List.cons_append, List.nil_append] at N
                have hk0 : k3 = 0 := by omega
                subst hk0
                have e00 : ((0 : Nat) : Int) = 0 := rfl
                rw [e00] at F
                walk_at "m_steps"
                rename Fr _ _ _ _ => F8
                rw [hsub] at F8 ⊢
                rw [lev_min (z := 2 * (t : Int)) (by omega) (by omega) (by omega) hcst] at F8 ⊢
                refine ksa_set (vs := [.int x3 tx3]) (ns := [x3]) (k := 0) F8 (by k_asm) (Upd.head ?_) (.cons _ _ .nil) (by decide) (by show (0 : Int) < 1; decide) (by decide) ?_
                · intro p hp
                  rcases List.mem_append.mp hp with hp | hp
                  · exact hoff p hp D (.head _)
                  · exact hoff3 p hp D (.head _)
                rintro h' F' N' - - -
                k_sweep
                simp only [Int.toNat_zero, List.set_cons_zero] at N'
                walk_at "m_steps"
                refine mst_end (2 * (t : Int) + cst, _, _, _, _, _, _, _, c3) (by k_asm) (by k_asm) (by
                  intro p hp
                  rcases List.mem_cons.mp hp with e | hp
                  · rw [e]; exact List.Mem.head _
                  · exact .tail _ (List.mem_append.mpr (.inl hp))) (fun p hp => .tail _ (List.mem_append.mpr (.inr hp))) (by rfl) (by kst_all) (by walk_at "m_same") ?_
                dsimp only; omega
local macro_rules | `(tactic| walk_at "m_calls") => `(tactic| ((with_reducible show wpAny _ _ (call (Value.ref 28) _) _ _ _); (rename Fr _ _ _ _ => Fc); (rename News _ _ _ _ => Nc); (refine use_con (lev_con _ _ _ _ _ _ _ _ _ (by assumption) (by assumption) (by assumption) (by assumption) (by assumption)) (by k_asm) (by k_asm) Fc Nc rfl (by walk_at "m_room") (by walk_at "m_room") trivial ?_); rintro r h' tk' F' N' - ⟨t', e'⟩; subst e'; k_sweep))
/-- blanks, a sign, blanks -/
def pd (i c j : Nat) : Str := ⟨(List.replicate i 32 ++ [c] ++ List.replicate j 32).toArray⟩
theorem pd_len (i c j : Nat) : (pd i c j).length = i + 1 + j := by simp [pd, Str.length]; omega
theorem pd_at : ∀ i < 6, ∀ c ∈ inks, ∀ j < 6, ∀ l < i + 1, (Txt.item (pd i c j) ((l : Nat) : Int) == Str.ofString " ") = decide (l < i) := by decide +kernel
theorem pd_back : ∀ i < 6, ∀ c ∈ inks, ∀ j < 6, ∀ q < j + 1, (Txt.item (pd i c j) (((i + 1 + j : Nat) : Int) - 1 - (q : Nat)) == Str.ofString " ") = decide (q < j) := by decide +kernel
theorem pd_cut : ∀ i < 6, ∀ c ∈ inks, ∀ j < 6, ∀ l < i + 1, ∀ q < j + 1, (Txt.slice (pd i c j) (some ((l : Nat) : Int)) (some (((i + 1 + j : Nat) : Int) - 1 - (q : Nat) + 1)) == ⟨#[c]⟩) = decide (i - l = 0 ∧ j - q = 0) := by decide +kernel

theorem strip_con (w : World) (i c j k : Nat) (ts tk : Tok) (hi : i < 6) (hc : c ∈ inks) (hj : j < 6) (hk : k < 6) :
    Con w 79 1 [.str (pd i c j) ts, .int (k : Int) tk] (fun _ => True) (fun _ r _ => ∃ x t, r = .str x t ∧ (x == ⟨#[c]⟩) = decide (i + j ≤ k)) := by
  have hl := pd_len i c j
  generalize hs : pd i c j = s at hl ⊢
  unfold Con; k_fill; w_top off
  intro mean mg mb A st Q E hA0 hA1 hA2 X T hp hret
  obtain ⟨ah, ad, af, ag, au⟩ := A
  cases hA0
  dsimp only at hA1 hA2
  refine' enter (binds := [(Str.ofString "s", .str s ts), (Str.ofString "amount", .int (k : Int) tk)]) ?k1 ?k2 ?k6 ?k7 ?k8 ?k9 ?kB ?_ ?c2 ?c3 ?c4 ?c5
  walk_at "m_enter"
  walk_at "m_steps"
  refine ksw_while (σ := Nat × Int × Tok × Tok) (fun _ => []) (fun z => [(Str.ofString "lpos", .int (z.1 : Int) z.2.2.1), (Str.ofString "amount", .int z.2.1 z.2.2.2)]) (fun _ => True) [] (fun z => z.1 ≤ i ∧ z.1 ≤ k ∧ z.2.1 = (k : Int) - (z.1 : Int)) (fun z => k - z.1) (0, (k : Int), ?t0, ?t1) (by assumption) (by assumption) trivial (by kst_all) (by dsimp only; omega) ?turn
  rintro ⟨l, al, tl, ta⟩ u h tk - hp F N
  k_sweep
  dsimp only at hp F
  simp only [List.contains_nil, Bool.false_eq_true, if_false] at F
  have e1 : (Txt.item s (l : Int) == Str.ofString " ") = decide (l < i) := by rw [← hs]; exact pd_at i hi c hc j hj l (by omega)
  refine cut0 (by exact F) (by exact N) (fun r => r = decide (l < k ∧ l < i)) ?_ ?_
  · walk_at "m_steps"
    all_goals refine cut_end (by k_asm) (by k_asm) ?_
    all_goals first
      | (have h9 : (Txt.item s (l : Int) == Str.ofString " ") = true := by assumption
         rw [e1] at h9
         have h8 := of_decide_eq_true h9
         exact (decide_eq_true (by omega)).symm)
      | (have h9 : (Txt.item s (l : Int) == Str.ofString " ") = false := by assumption
         rw [e1] at h9
         have h8 := of_decide_eq_false h9
         exact (decide_eq_false (by omega)).symm)
      | exact (decide_eq_false (by omega)).symm
  · intro r h' tk' F' N' hr
    k_sweep
    subst hr
    by_cases hcl : l < k ∧ l < i
    · rw [decide_eq_true hcl, if_pos rfl]
      walk_at "m_steps"
      refine ksw_end (l + 1, al - 1, _, _) (by k_asm) (by k_asm) (by kst_in) trivial (by kst_all) (by walk_at "m_same") (by dsimp only; omega) (by dsimp only; omega)
    · rw [decide_eq_false hcl, if_neg (by decide)]
      walk_at "m_steps"
      rename Fr _ _ _ _ => F2
      rename News _ _ _ _ => N2
      rw [hl] at F2
      refine ksw_while (σ := Nat × Int × Int × Tok × Tok) (fun _ => []) (fun z => [(Str.ofString "rpos", .int z.2.1 z.2.2.2.1), (Str.ofString "amount", .int z.2.2.1 z.2.2.2.2)]) (fun _ => True) [] (fun z => z.1 ≤ j ∧ z.1 ≤ k - l ∧ z.2.1 = ((i + 1 + j : Nat) : Int) - 1 - (z.1 : Nat) ∧ z.2.2.1 = (k : Int) - (l : Int) - (z.1 : Int)) (fun z => k - z.1) (0, ((i + 1 + j : Nat) : Int) - 1, al, ?t2, ta) (by exact F2) (by exact N2) trivial (by kst_all) (by dsimp only; omega) ?turn2
      rintro ⟨q, rp, al2, tl2, ta2⟩ u2 h2 tk2 - hp2 F N
      k_sweep
      dsimp only at hp2 F
      simp only [List.contains_nil, Bool.false_eq_true, if_false] at F
      have e2 : (Txt.item s rp == Str.ofString " ") = decide (q < j) := by rw [← hs, hp2.2.2.1]; exact pd_back i hi c hc j hj q (by omega)
      refine cut0 (by exact F) (by exact N) (fun r => r = decide (q < k - l ∧ q < j)) ?_ ?_
      · walk_at "m_steps"
        all_goals refine cut_end (by k_asm) (by k_asm) ?_
        all_goals first
          | (have h9 : (Txt.item s rp == Str.ofString " ") = true := by assumption
             rw [e2] at h9
             have h8 := of_decide_eq_true h9
             exact (decide_eq_true (by omega)).symm)
          | (have h9 : (Txt.item s rp == Str.ofString " ") = false := by assumption
             rw [e2] at h9
             have h8 := of_decide_eq_false h9
             exact (decide_eq_false (by omega)).symm)
          | exact (decide_eq_false (by omega)).symm
      · intro r h' tk' F' N' hr
        k_sweep
        subst hr
        by_cases hcq : q < k - l ∧ q < j
        · rw [decide_eq_true hcq, if_pos rfl]
          walk_at "m_steps"
          refine ksw_end (q + 1, rp - 1, al2 - 1, _, _) (by k_asm) (by k_asm) (by kst_in) trivial (by kst_all) (by walk_at "m_same") (by dsimp only; omega) (by dsimp only; omega)
        · rw [decide_eq_false hcq, if_neg (by decide)]
          have e3 : (Txt.slice s (some (l : Int)) (some (rp + 1)) == ⟨#[c]⟩) = decide (i + j ≤ k) := by
            rw [← hs, hp2.2.2.1, pd_cut i hi c hc j hj l (by omega) q (by omega)]
            exact decide_eq_decide.mpr (by omega)
          walk_at "m_steps"
          exact hret _ _ _ (Fr.keep (by k_asm)) ⟨_, _, rfl, e3⟩
/-- a reply 229 whose port is a nought and so many ones -/
def reply (c n : Nat) : Str := ⟨([50, 50, 57, 32, 111, 107, 32, 40, c, c, c, 48] ++ List.replicate n 49 ++ [c, 41]).toArray⟩
def marks : List Nat := [124, 32, 40, 45]
theorem reply_len (c n : Nat) : (reply c n).length = n + 14 := by simp [reply, Str.length]

theorem rp_head : ∀ c ∈ marks, ∀ n < 6, (Txt.slice (reply c n) none (some 3) != Str.ofString "229") = false := by decide +kernel
theorem rp_left : ∀ c ∈ marks, ∀ n < 6, Txt.find (reply c n) (Str.ofString "(") = 7 := by decide +kernel
theorem rp_right : ∀ c ∈ marks, ∀ n < 6, Txt.find3 (reply c n) (Str.ofString ")") (7 + 1) = (n : Nat) + 13 := by decide +kernel
theorem rp_same : ∀ c ∈ marks, ∀ n < 6, (Txt.item (reply c n) (7 + 1) != Txt.item (reply c n) (((n : Nat) : Int) + 13 - 1)) = false := by decide +kernel
def ones (n : Nat) : Str := ⟨(48 :: List.replicate n 49).toArray⟩
def port (n : Nat) : Int := ((10 ^ n - 1) / 9 : Nat)
theorem rp_parts : ∀ c ∈ marks, ∀ n < 6, Txt.split (Txt.slice (reply c n) (some (7 + 1)) (some (((n : Nat) : Int) + 13))) (Txt.item (reply c n) (7 + 1)) = [⟨#[]⟩, ⟨#[]⟩, ⟨#[]⟩, ones n, ⟨#[]⟩] := by decide +kernel
theorem rp_int : ∀ n < 6, PySem.intText? (ones n) = some (port n) := by decide +kernel
theorem rp_ones : ∀ n < 6, (ones n).length ≤ 640 := by decide +kernel
theorem port_con (w : World) (c n : Nat) (ts : Tok) (pa : Addr) (hc : c ∈ marks) (hn : n < 6) :
    Con w 72 1 [.str (reply c n) ts, .ref pa] (fun h => ∃ t1 t2, IsTup h pa #[.str (Str.ofString "h") t1, .int 21 t2]) (fun _ r h' => ∃ a t1 t2, r = .ref a ∧ IsTup h' a #[.str (Str.ofString "h") t1, .int (port n) t2]) := by
  have hl := reply_len c n
  have f0 := rp_head c hc n hn
  have f1 := rp_left c hc n hn
  have f2 := rp_right c hc n hn
  have f3 := rp_same c hc n hn
  have f4 := rp_parts c hc n hn
  generalize hs : reply c n = s at hl f0 f1 f2 f3 f4 ⊢
  rw [← f1] at f2 f3 f4
  rw [← f2] at f3 f4
  unfold Con; k_fill; w_top off
  intro mean mg mb A st Q E hA0 hA1 hA2 X T hp hret
  obtain ⟨ah, ad, af, ag, au⟩ := A
  cases hA0
  dsimp only at hA1 hA2
  obtain ⟨th, tp, hpa⟩ := hp
  refine' enter (binds := [(Str.ofString "resp", .str s ts), (Str.ofString "peer", .ref pa)]) ?k1 ?k2 ?k6 ?k7 ?k8 ?k9 ?kB ?_ ?c2 ?c3 ?c4 ?c5
  walk_at "m_enter"
  walk_at "m_steps"
  · rename List.map _ _ = _ => q1
    rw [f4] at q1
    have q2 := congrArg List.length q1
    simp only [List.length_map, List.length_cons, List.length_nil] at q2
    omega
  · rename List.map _ _ = _ => q1
    rename _[_]? = some _ => q3
    rw [f4] at q1
    rw [q1] at q3
    have q4 := Option.some.inj q3
    subst q4
    refine KIN.call_text (rp_int n hn) (rp_ones n hn) ?_
    walk_at "m_steps"
    exact hret _ _ _ (Fr.keep (by k_asm)) ⟨_, _, _, rfl, News.isTup (by k_asm) (.head _)⟩
/-- a line: blanks ahead (b) or behind -/
def ln (b : Bool) (c n : Nat) : Str := pd (if b then n else 0) c (if b then 0 else n)
theorem strip_ln (w : World) (b : Bool) (c n k : Nat) (ts tk : Tok) (hc : c ∈ inks) (hn : n < 6) (hk : k < 6) :
    Con w 79 1 [.str (ln b c n) ts, .int (k : Int) tk] (fun _ => True) (fun _ r _ => ∃ x t, r = .str x t ∧ (x == ⟨#[c]⟩) = decide (n ≤ k)) := by
  have h := strip_con w (if b then n else 0) c (if b then 0 else n) k ts tk (by split <;> omega) hc (by split <;> omega) hk
  have e : (if b then n else 0) + (if b then 0 else n) = n := by cases b <;> simp
  rw [e] at h
  exact h
/-- the values at hand are these texts -/
def TextsAre (mk : Nat → Str) (vs : List Value) (zs : List Nat) : Prop := vs.length = zs.length ∧ ∀ (i n : Nat), zs[i]? = some n → ∃ t, vs[i]? = some (Value.str (mk n) t)
def cnt (zs : List Nat) (k : Nat) : Int := ((zs.filter fun n => decide (k < n)).length : Int)
def counts (zs : List Nat) : List Int := (List.range 5).map (cnt zs)
theorem cnt_take {zs : List Nat} {i n k : Nat} (h : zs[i]? = some n) : cnt (zs.take (i + 1)) k = cnt (zs.take i) k + (if n ≤ k then 0 else 1) := by
  unfold cnt
  rw [List.take_add_one, h, List.filter_append, List.length_append]
  by_cases q : n ≤ k
  · simp [q, Nat.not_lt.mpr q]
  · simp [q, Nat.lt_of_not_le q]

theorem TextsAre.at {mk : Nat → Str} {vs : List Value} {zs : List Nat} (h : TextsAre mk vs zs) {i : Nat} {v : Value} (hv : vs[i]? = some v) : ∃ n t, zs[i]? = some n ∧ v = Value.str (mk n) t := by
  have hi : i < vs.length := by
    rcases Nat.lt_or_ge i vs.length with h1 | h1
    · exact h1
    · rw [List.getElem?_eq_none h1] at hv; cases hv
  have hz : i < zs.length := h.1 ▸ hi
  obtain ⟨t, e⟩ := h.2 i zs[i] (List.getElem?_eq_getElem hz)
  rw [hv] at e
  exact ⟨_, t, List.getElem?_eq_getElem hz, Option.some.inj e⟩


local macro_rules | `(tactic| walk_at "m_calls") => `(tactic| ((with_reducible show wpAny _ _ (call (Value.ref 79) _) _ _ _); (rename Fr _ _ _ _ => Fc); (rename News _ _ _ _ => Nc); (refine use_con (strip_ln _ _ _ _ _ _ _ (by assumption) (by assumption) (by omega)) (by k_asm) (by k_asm) Fc Nc rfl (by walk_at "m_room") (by walk_at "m_room") trivial ?_); rintro r h' tk' F' N' - ⟨x', t', e', hx'⟩; subst e'; k_sweep))
theorem lines_con (w : World) (b : Bool) (c : Nat) (zs : List Nat) (la : Addr) (ti : Tok) (hc : c ∈ inks) (hz : ∀ n ∈ zs, n < 6) (hlen : zs.length < 100) :
    Con w 145 3 [.ref la, .str ⟨#[c]⟩ ti] (fun h => ∃ vs, h.IsList la vs.toArray ∧ TextsAre (ln b c) vs zs) (fun h r h' => ∃ a vs n, r = .ref a ∧ h.get? a = none ∧ h'.get? a = some (W.listOf vs.toArray n) ∧ IntsAre vs (counts zs)) := by
  unfold Con; k_fill; w_top off
  intro mean mg mb A st Q E hA0 hA1 hA2 X T hp hret
  obtain ⟨ah, ad, af, ag, au⟩ := A
  cases hA0
  dsimp only at hA1 hA2
  obtain ⟨vs, hla, hvs⟩ := hp
  refine' enter (binds := [(Str.ofString "lines", .ref la), (Str.ofString "ink", .str ⟨#[c]⟩ ti)]) ?k1 ?k2 ?k6 ?k7 ?k8 ?k9 ?kB ?_ ?c2 ?c3 ?c4 ?c5
  walk_at "m_enter"
  walk_at "m_steps"
  rename Fr _ _ _ _ => F4
  rename News _ _ _ _ => N4
  refine For_invVF F4 (by exact rfl) (by exact rfl) ?_ (hE := PassesOwn.never)
  walk_at "m_steps"
  rename IsRange _ _ _ _ _ _ _ _ => R5
  rename Fr _ _ _ _ => F5
  rename News _ _ _ _ => N5
  refine m_range0O 5 (σ := List Value × Nat) F5 N5 (fun z => W.listOf z.1.toArray z.2) (fun _ => []) [Str.ofString "more", Str.ofString "line"]
    (fun k z => IntsAre z.1 ((List.range k).map (cnt zs))) ([], 0) rfl rfl R5 rfl (by omega) (by kst_all) .nil ?turn ?done
  case done =>
    rintro ⟨us, cc⟩ u h tk hP F N
    k_sweep
    try dsimp only at hP F N ⊢
    walk_at "m_steps"
    exact hret _ _ _ (Fr.keep (by k_asm)) ⟨_, us, cc, rfl, News.fresh (by k_asm) (.head _), News.get (by k_asm) (.head _), hP⟩
  rintro ⟨us, cc⟩ k tt u h tk own hk hoff hP F N
  k_sweep
  try dsimp only [List.map_nil, List.map_cons] at hoff
  try dsimp only at hP F N ⊢
  try simp only [List.nil_append] at N
  walk_at "m_steps"
  rename Fr _ _ _ _ => F6
  refine For_invVF F6 (by exact rfl) (by exact rfl) ?_ (hE := PassesOwn.never)
  walk_at "m_steps"
  rename Fr _ _ _ _ => F7
  rename News _ _ _ _ => N7
  refine m_listO (vs := vs) (σ := Int × Tok) F7 N7 (fun _ => W.listOf us.toArray cc) (fun z => [(Str.ofString "more", .int z.1 z.2)]) [] (fun i z => z.1 = cnt (zs.take i) k) (0, ?t0) rfl rfl hla (by kst_all) (by rfl) ?turn2 ?done2
  case done2 =>
    rintro ⟨mo, tm⟩ u2 h2 tk2 hP2 F N
    k_sweep
    try dsimp only at hP2 F N ⊢
    walk_at "m_steps"
    have hul : us.length = k := by rw [hP.length]; simp
    rename Fr _ _ _ _ => F8
    rename News _ _ _ _ => N8
    refine append_head F8 N8 (fun p hp => hoff p hp _ (.head _)) (by omega) fun h' n' F' N' => ?_
    k_sweep
    walk_at "m_steps"
    refine mst_endO (_, _) (by k_asm) (by k_asm) rfl (by kst_all) (by walk_at "m_same") ?_
    dsimp only
    rw [List.range_succ, List.map_append]
    rw [hvs.1, List.take_length] at hP2
    rw [hP2]
    exact hP.append (.cons _ _ .nil)
  rintro ⟨mo, tm⟩ i v u2 h2 tk2 own2 hv hoff2 hP2 F N
  k_sweep
  obtain ⟨n, tv, hzn, rfl⟩ := hvs.at hv
  have hn6 : n < 6 := hz n (List.mem_of_getElem? hzn)
  try dsimp only at hP2 F N ⊢
  walk_at "m_steps"
  · rename (_ == _) = decide _ => q1
    rename (_ == _) = true => q2
    rw [q1] at q2
    have q3 := of_decide_eq_true q2
    refine mst_endO (_, _) (by k_asm) (by k_asm) rfl (by kst_all) (by walk_at "m_same") ?_
    dsimp only
    rw [cnt_take hzn, if_pos q3, hP2]; omega
  · rename (_ == _) = decide _ => q1
    rename (_ == _) = false => q2
    rw [q1] at q2
    have q3 := of_decide_eq_false q2
    refine mst_endO (_, _) (by k_asm) (by k_asm) rfl (by kst_all) (by walk_at "m_same") ?_
    dsimp only
    rw [cnt_take hzn, if_neg q3, hP2]
def wk (zs : List Nat) : Nat → Int
  | 0 => cnt zs 0 + 10 * cnt zs 1 + 100 * cnt zs 2 + 1000 * cnt zs 3 + 10000 * cnt zs 4
  | 1 => cnt zs 1 + 10 * cnt zs 2 + 100 * cnt zs 3 + 1000 * cnt zs 4
  | 2 => cnt zs 2 + 10 * cnt zs 3 + 100 * cnt zs 4
  | 3 => cnt zs 3 + 10 * cnt zs 4
  | 4 => cnt zs 4
  | _ => 0
theorem port_vals : ∀ n < 6, port n = (if n ≤ 0 then 0 else 1) + 10 * (if n ≤ 1 then 0 else 1) + 100 * (if n ≤ 2 then 0 else 1) + 1000 * (if n ≤ 3 then 0 else 1) + 10000 * (if n ≤ 4 then 0 else 1) := by decide +kernel
theorem cnt_bound (zs : List Nat) (k : Nat) : 0 ≤ cnt zs k ∧ cnt zs k ≤ zs.length := by
  unfold cnt
  have := List.length_filter_le (fun n => decide (k < n)) zs
  omega
theorem wk_step {zs : List Nat} (h : zs.length ≤ 9) {k : Nat} (hk : k < 5) : (wk zs k).fmod 10 = cnt zs k ∧ (wk zs k).fdiv 10 = wk zs (k + 1) := by
  have c0 := cnt_bound zs 0
  have c1 := cnt_bound zs 1
  have c2 := cnt_bound zs 2
  have c3 := cnt_bound zs 3
  have c4 := cnt_bound zs 4
  rw [Int.fmod_eq_emod_of_nonneg _ (by decide), Int.fdiv_eq_ediv_of_nonneg _ (by decide)]
  have h5 : k = 0 ∨ k = 1 ∨ k = 2 ∨ k = 3 ∨ k = 4 := by omega
  rcases h5 with rfl | rfl | rfl | rfl | rfl <;> (simp only [wk]; omega)
theorem ports_sum {zs : List Nat} (hz : ∀ n ∈ zs, n < 6) : (zs.map port).sum = wk zs 0 := by
  induction zs with
  | nil => rfl
  | cons n r ih =>
    have e : ∀ k, cnt (n :: r) k = (if n ≤ k then 0 else 1) + cnt r k := by
      intro k
      unfold cnt
      by_cases h : n ≤ k
      · simp [h, Nat.not_lt.mpr h]
      · simp [h, Nat.lt_of_not_le h]; omega
    rw [List.map_cons, List.sum_cons, ih fun m hm => hz m (.tail _ hm), port_vals n (hz n (.head _))]
    simp only [wk, e]
    omega
theorem ints_at {vs : List Value} {zs : List Nat} (h : IntsAre vs (zs.map Int.ofNat)) {i : Nat} {v : Value} (hv : vs[i]? = some v) : ∃ n t, zs[i]? = some n ∧ v = Value.int ((n : Nat) : Int) t := by
  have hl := h.length
  rw [List.length_map] at hl
  have hi : i < zs.length := by
    rcases Nat.lt_or_ge i vs.length with h1 | h1
    · omega
    · rw [List.getElem?_eq_none h1] at hv; cases hv
  obtain ⟨t, e⟩ := h.get i ((zs[i] : Nat) : Int) (by simp [hi])
  rw [hv] at e
  exact ⟨zs[i], t, List.getElem?_eq_getElem hi, Option.some.inj e⟩
theorem reply_made : ∀ c ∈ marks, ∀ n < 6, Str.ofString "229 ok (" ++ Txt.mul ⟨#[c]⟩ 3 ++ Str.ofString "0" ++ Txt.mul (Str.ofString "1") ((n : Nat) : Int) ++ ⟨#[c]⟩ ++ Str.ofString ")" = reply c n := by decide +kernel

local macro_rules | `(tactic| walk_at "binaryOp Mult str int") => `(tactic| k_dflt (refine KXi.mul (n := 1) (by rfl) (by decide) (by omega) (by omega) ?_; intro _ _ kxiZ kxiN))
theorem ports_con (w : World) (c : Nat) (zs : List Nat) (la : Addr) (ti : Tok) (hc : c ∈ marks) (hz : ∀ n ∈ zs, n < 6) (hlen : zs.length ≤ 9) :
    Con w 138 3 [.ref la, .str ⟨#[c]⟩ ti] (fun h => ∃ vs, h.IsList la vs.toArray ∧ IntsAre vs (zs.map Int.ofNat)) (fun h r h' => ∃ a vs n, r = .ref a ∧ h.get? a = none ∧ h'.get? a = some (W.listOf vs.toArray n) ∧ IntsAre vs (counts zs)) := by
  unfold Con; k_fill; w_top off
  intro mean mg mb A st Q E hA0 hA1 hA2 X T hp hret
  obtain ⟨ah, ad, af, ag, au⟩ := A
  cases hA0
  dsimp only at hA1 hA2
  obtain ⟨vs, hla, hvs⟩ := hp
  refine' enter (binds := [(Str.ofString "sizes", .ref la), (Str.ofString "mark", .str ⟨#[c]⟩ ti)]) ?k1 ?k2 ?k6 ?k7 ?k8 ?k9 ?kB ?_ ?c2 ?c3 ?c4 ?c5
  walk_at "m_enter"
  walk_at "m_steps"
  rename Fr _ _ _ _ => F4
  rename News _ _ _ _ => N4
  refine For_invVF F4 (by exact rfl) (by exact rfl) ?_ (hE := PassesOwn.never)
  walk_at "m_steps"
  rename Fr _ _ _ _ => F7
  rename News _ _ _ _ => N7
  refine m_list (vs := vs) (σ := Int × Tok) (fun _ => []) (fun z => [(Str.ofString "whole", .int z.1 z.2)]) [Str.ofString "reply", Str.ofString "host", Str.ofString "port"] (fun i z => z.1 = ((zs.take i).map port).sum) (0, ?t0) rfl hla F7 N7 (by kst_all) (by rfl) ?turn ?done
  case done =>
    rintro ⟨mo, tm⟩ u2 h2 tk2 hP2 F N
    k_sweep
    try dsimp only at hP2 F N ⊢
    walk_at "m_steps"
    rename Fr _ _ _ _ => F4
    rename News _ _ _ _ => N4
    refine For_invVF F4 (by exact rfl) (by exact rfl) ?_ (hE := PassesOwn.never)
    walk_at "m_steps"
    rename IsRange _ _ _ _ _ _ _ _ => R5
    rename Fr _ _ _ _ => F5
    rename News _ _ _ _ => N5
    have hl := hvs.length
    rw [List.length_map] at hl
    rw [hl, List.take_length, ports_sum hz] at hP2
    refine m_range0O 5 (σ := List Value × Nat × Int × Tok) F5 N5 (fun z => W.listOf z.1.toArray z.2.1) (fun z => [(Str.ofString "whole", .int z.2.2.1 z.2.2.2)]) []
      (fun k z => IntsAre z.1 ((List.range k).map (cnt zs)) ∧ z.2.2.1 = wk zs k) ([], 0, mo, tm) rfl rfl R5 rfl (by omega) (by kst_all) ⟨.nil, hP2⟩ ?turn3 ?done3
    case done3 =>
      rintro ⟨us, cc, wh, tw⟩ u h tk hP F N
      k_sweep
      try dsimp only at hP F N ⊢
      have hw0 : wh = 0 := hP.2
      subst hw0
      walk_at "m_steps"
      exact hret _ _ _ (Fr.keep (by k_asm)) ⟨_, us, cc, rfl, News.fresh (by k_asm) (.head _), News.get (by k_asm) (.head _), hP.1⟩
    rintro ⟨us, cc, wh, tw⟩ k tt u h tk own hk hoff hP F N
    k_sweep
    try dsimp only [List.map_nil, List.map_cons] at hoff
    try dsimp only at hP F N ⊢
    try simp only [List.nil_append] at N
    have hst := wk_step hlen hk
    have hul : us.length = k := by rw [hP.1.length]; simp
    walk_at "m_steps"
    rename News _ _ _ _ => N8
    rw [List.push_toArray] at N8
    refine mst_endO (us ++ [_], cc + 1, _, _) (by k_asm) N8 rfl (by kst_all) (by walk_at "m_same") ?_
    dsimp only
    rw [hP.2]
    refine ⟨?_, hst.2⟩
    rw [List.range_succ, List.map_append, hst.1]
    exact hP.1.append (.cons _ _ .nil)
  rintro ⟨mo, tm⟩ i v u2 h2 tk2 own2 hv hoff2 hP2 F N
  k_sweep
  obtain ⟨n, tv, hzn, hv2⟩ : ∃ n tv, zs[i]? = some n ∧ v = Value.int ((n : Nat) : Int) tv := ints_at hvs hv
  subst hv2
  have hn6 : n < 6 := hz n (List.mem_of_getElem? hzn)
  try dsimp only at hP2 F N ⊢
  walk_at "m_steps"
  rw [reply_made c hc n hn6]
  rename Fr _ _ _ _ => F9
  rename News _ _ _ _ => N9
  refine use_con (port_con w c n _ _ hc hn6) (by k_asm) (by k_asm) F9 N9 rfl (by walk_at "m_room") (by walk_at "m_room") ⟨_, _, News.isTup N9 (.head _)⟩ ?_
  rintro r h' tk' F N - ⟨a, t1, t2, rfl, ht⟩
  k_sweep
  walk_at "m_steps"
  refine mst_end (_, _) (by k_asm) (by k_asm) (fun p hp => nomatch hp) (fun p hp => List.mem_cons_of_mem _ (by simpa using hp)) rfl (by kst_all) (by walk_at "m_same") ?_
  dsimp only
  rw [List.take_add_one, hzn, hP2]
  simp
def distF (zs ys : List Nat) (ca cb : Nat) : Int := (zs.map fun i => (ys.map fun j => levV i ca j cb).sum).sum

theorem dist_con (w : World) (ca cb : Nat) (zs ys : List Nat) (la lb : Addr) (bd : Int) (ti : Tok) (hca : ca ∈ inks) (hcb : cb ∈ inks) (hz : ∀ n ∈ zs, n < 6) (hy : ∀ n ∈ ys, n < 6) (hbd : 12 ≤ bd ∧ bd ≤ 16) :
    Con w 152 5 [.ref la, .ref lb, .int bd ti] (fun h => (∃ vs, h.IsList la vs.toArray ∧ TextsAre (fun n => sp n ca) vs zs) ∧ ∃ us, h.IsList lb us.toArray ∧ TextsAre (fun n => sp n cb) us ys) (fun _ r _ => ∃ t, r = .int (distF zs ys ca cb) t) := by
  unfold Con; k_fill; w_top off
  intro mean mg mb A st Q E hA0 hA1 hA2 X T hp hret
  obtain ⟨ah, ad, af, ag, au⟩ := A
  cases hA0
  dsimp only at hA1 hA2
  obtain ⟨⟨vs, hla, hvs⟩, us, hlb, hus⟩ := hp
  refine' enter (binds := [(Str.ofString "lines", .ref la), (Str.ofString "others", .ref lb), (Str.ofString "bound", .int bd ti)]) ?k1 ?k2 ?k6 ?k7 ?k8 ?k9 ?kB ?_ ?c2 ?c3 ?c4 ?c5
  walk_at "m_enter"
  walk_at "m_steps"
  rename Fr _ _ _ _ => F4
  rename News _ _ _ _ => N4
  refine For_invVF F4 (by exact rfl) (by exact rfl) ?_ (hE := PassesOwn.never)
  walk_at "m_steps"
  rename Fr _ _ _ _ => F7
  rename News _ _ _ _ => N7
  refine m_list (vs := vs) (σ := Int × Tok) (fun _ => []) (fun z => [(Str.ofString "whole", .int z.1 z.2)]) [Str.ofString "other"] (fun i z => z.1 = distF (zs.take i) ys ca cb) (0, ?t0) rfl hla F7 N7 (by kst_all) (by rfl) ?turn ?done
  case done =>
    rintro ⟨mo, tm⟩ u2 h2 tk2 hP2 F N
    k_sweep
    try dsimp only at hP2 F N ⊢
    rw [hvs.1, List.take_length] at hP2
    subst hP2
    walk_at "m_steps"
    exact hret _ _ _ (Fr.keep (by k_asm)) ⟨_, rfl⟩
  rintro ⟨mo, tm⟩ i v u2 h2 tk2 own hv hoff hP F N
  k_sweep
  obtain ⟨n, tv, hzn, rfl⟩ := hvs.at hv
  have hn6 : n < 6 := hz n (List.mem_of_getElem? hzn)
  try dsimp only at hP F N ⊢
  try simp only [List.nil_append] at N
  walk_at "m_steps"
  rename Fr _ _ _ _ => F8
  refine For_invVF F8 (by exact rfl) (by exact rfl) ?_ (hE := PassesOwn.never)
  walk_at "m_steps"
  rename Fr _ _ _ _ => F9
  rename News _ _ _ _ => N9
  refine m_list (vs := us) (σ := Int × Tok) (fun _ => own) (fun z => [(Str.ofString "whole", .int z.1 z.2)]) [] (fun j z => z.1 = mo + ((ys.take j).map fun j => levV n ca j cb).sum) (mo, tm) rfl hlb F9 N9 (by kst_all) (by simp) ?turn2 ?done2
  case done2 =>
    rintro ⟨mo2, tm2⟩ u3 h3 tk3 hP2 F N
    k_sweep
    try dsimp only at hP2 F N ⊢
    rw [hus.1, List.take_length] at hP2
    walk_at "m_steps"
    refine mst_end (_, _) (by k_asm) (by k_asm) (fun p hp => nomatch hp) (fun p hp => hp) rfl (by kst_all) (by walk_at "m_same") ?_
    dsimp only
    rw [hP2, hP]
    unfold distF
    rw [List.take_add_one, hzn]
    simp
  rintro ⟨mo2, tm2⟩ j v2 u3 h3 tk3 own2 hv2 hoff2 hP2 F N
  k_sweep
  obtain ⟨n2, tv2, hyn, rfl⟩ := hus.at hv2
  have hn62 : n2 < 6 := hy n2 (List.mem_of_getElem? hyn)
  try dsimp only at hP2 F N ⊢
  walk_at "m_steps"
  refine mst_end (_, _) (by k_asm) (by k_asm) (fun p hp => List.mem_append.mpr (.inl hp)) (fun p hp => List.mem_append.mpr (.inr hp)) rfl (by kst_all) (by walk_at "m_same") ?_
  dsimp only
  rw [hP2, List.take_add_one, hyn]
  simp
  omega
/-- the way into a def with cells: the heap at the call is the ground -/
theorem enterC {prog : Program} {w : World} {K : Frag} {p : Program} {loose : List Str} {mean : ExcName → Option Value} {mg mb : Str → Option Value} {A : Around} {s : Shared}
    {Q E : Value → Shared → Prop} {name qual : Str} {params : Arguments} {body : List Stmt} {scope : Scope} {dV kV doc pm cdv ct oc : Value} {an od : Option Addr} {osl : Array (Option Value)} {f : Addr} {vs : List Value} {binds : List (Str × Value)}
    (X : K.In s.heap) (T : Top p loose mean mg mb s.heap)
    (ho : K.lookup f = some ⟨oc, od, .func (fnOf name qual params body scope dV kV doc pm an cdv ct), osl⟩) (hcd : codeIn K cdv qual = true) (hroom : A.depth < recursionLimit)
    (hbind : BindsTo s (fnOf name qual params body scope dV kV doc pm an cdv ct) ⟨vs, []⟩ binds)
    (hkind : ∀ n, ∀ x ∈ binds, scope.names.lookup x.1 = some .local ∨ (scope.names.lookup x.1 = some .cell ∧ ((cellsFrom n scope.names []).lookup x.1).isSome = true))
    (hnd : ((cellsFrom 0 scope.names []).map (·.1)).Nodup)
    (h : ∀ L h₁ tk cells, Fr s.heap L h₁ (bindL (envOfC qual scope L f cdv).kindOf binds fun _ => none) → News s.heap L h₁ cells →
      CellsAre (bindC (envOfC qual scope L f cdv).kindOf binds fun _ => none) (cellsFrom (L + 1) scope.names []) cells →
      wpAny (model prog w) (A.deeper (envOfC qual scope L f cdv)) (execs body (envOfC qual scope L f cdv))
        (fun fl s' => Q (match fl with | .ret v => v | _ => .none) s') (fun _ _ => False)
        { s with heap := h₁, toks := tk })
    (hco : scope.isCoroutine = false) (hgen : scope.isGenerator = false) (hk : scope.kind = .function) : wpAny (model prog w) A (call (.ref f) vs) Q E s := by
  refine wpAny_call ?_
  refine codeAny_call_function (fd := fnOf name qual params body scope dV kV doc pm an cdv ct) hroom (X _ _ ho) rfl hco hgen rfl (codeRec_of X hcd) (hbind _ _ _ _ ?_)
  refine wpAny_newFunctionEnv_cells hk (hkind _) fun env' he s' x => ?_
  subst he
  refine ⟨T.nolimit.keeps x.toInCall.keep, codeAny_func ?_⟩
  obtain ⟨h₁, tk, rfl, _⟩ := x.done
  have hk₁ := x.toInCall.keep
  obtain ⟨cells, NC, Y⟩ := Cl.news (h₀ := s.heap) (Nat.le_refl _) fun n c hm => ⟨x.cell n c (lookup_of_mem_nodup (cellsFrom_names scope.names 0 (s.heap.objs.size + 1) [] [] rfl ▸ hnd) hm), x.above n c hm⟩
  exact wpAny_mono (h s.heap.objs.size h₁ tk cells ⟨x.toInCall.ns, hk₁, Nat.le_refl _⟩ NC Y) (fun fl s' hl => hl) fun _ _ y => y.elim

structure Held (p : Prop) : Prop where
  h : p
theorem ListComp_H {prog : Program} {w : World} {A : Around} {E : Value → Shared → Prop} {s : Shared} {h₀ : Heap} {L : Addr} {m : Str → Option Value} {env : Env} {elt iter : Expr} {x : Str} {px : Pos} {scope : Scope} {cl : List (Str × Addr)} {pos : Pos} {Q : Value → Shared → Prop} (F₀ : Fr h₀ L s.heap m)
    (hclos : closureFor scope env = pure cl) (hcell : ∀ y ∈ scope.names, y.2 ≠ .cell) (hkind : scope.kind = .function)
    (hnames : ∀ y ∈ scope.names, y.2 = .local → scope.names.lookup y.1 = some .local) (hx : scope.names.lookup x = some .local)
    (h : wpAny (model prog w) A (eval iter env) (fun xv s₁ => Held (LCg.CompSrc prog w A h₀ L m env elt x scope cl (fun s₂ => LCg.FinE h₀ L m s₂ Q) xv s₁)) E s)
    (hs : ∀ x, foldedSetIterable iter env x = pure x := by intro _; rfl) :
    wpAny (model prog w) A (eval (.ListComp elt [⟨.Name x px, iter, [], 0⟩] scope pos) env) Q E s :=
  LCg.ListComp_U F₀ hclos hcell hkind hnames hx (wpAny_mono h (fun _ _ x => x.h) fun _ _ e => e) hs
section
variable {prog : Program} {w : World} {A : Around} {h₀ : Heap} {L : Addr} {m : Str → Option Value} {env : Env} {elt : Expr} {x : Str} {scope : Scope} {cl : List (Str × Addr)} {s : Shared} {S : List (Addr × Obj) → Prop} {P : Nat → Value → Prop} {Fin : List Value → List (Addr × Obj) → Prop} {news : List (Addr × Obj)}
/-- a comprehension whose turns leave the ledger as it was -/
theorem kcr_rest {n : Nat} (Rl : Nat → Value → Prop) (hS : S news)
    (turn : ∀ i v I oI C oC D m₂ ys h tk, i < n → P i v → LCg.NsObj oC m₂ → m₂ x = some v → Fr h₀ L h m → News h₀ L h ((I, oI) :: (C, oC) :: (D, LCg.lst ys) :: news) → LCg.Off3 I C D news → ((@Ne Nat I C) ∧ (@Ne Nat I D) ∧ (@Ne Nat C D)) →
      wpAny (model prog w) A (eval elt (compEnvC scope cl C env)) (Cut h₀ L (fun _ => m) ((I, oI) :: (C, oC) :: (D, LCg.lst ys) :: news) { s with heap := h, toks := tk } (fun y => Rl i y)) (fun _ _ => False) { s with heap := h, toks := tk })
    (fin : ∀ ys, ys.length = n → (∀ (i : Nat) y, ys[i]? = some y → Rl i y) → Fin ys news) : LCg.CompRest prog w A h₀ L m env elt x scope cl s S P Fin n 0 [] news := by
  have key : ∀ (j i : Nat) (ys : List Value), i + j = n → ys.length = i → (∀ (q : Nat) y, ys[q]? = some y → Rl q y) → LCg.CompRest prog w A h₀ L m env elt x scope cl s S P Fin j i ys news := by
    intro j
    induction j with
    | zero =>
      intro i ys hi hl hy
      exact LCg.CompRest.zero (fin ys (by omega) hy)
    | succ j ih =>
      intro i ys hi hl hy
      refine LCg.CompRest.succ ?_
      intro v I oI C oC D m₂ h tk E' hv hC hx F N off ne
      refine wpAny_mono (turn i v I oI C oC D m₂ ys h tk (by omega) hv hC hx F N off ne) (fun y s₂ hq => ?_) fun _ _ e => e.elim
      obtain ⟨h', tk', e, F', N', hr⟩ := hq.all
      refine ⟨h', tk', news, e, F', N', off, hS, ?_⟩
      refine ih (i + 1) _ (by omega) (by rw [List.length_append, hl]; rfl) fun q y2 hq => ?_
      rcases Nat.lt_or_ge q ys.length with h1 | h1
      · rw [List.getElem?_append_left h1] at hq
        exact hy q y2 hq
      · rw [List.getElem?_append_right h1] at hq
        rcases Nat.eq_zero_or_pos (q - ys.length) with h2 | h2
        · rw [h2] at hq
          have e2 : y = y2 := by simpa using hq
          subst e2
          have e3 : q = i := by omega
          rw [e3]; exact hr
        · rw [List.getElem?_eq_none (by show 1 ≤ q - ys.length; omega)] at hq; cases hq
  exact key n 0 [] (by omega) rfl (fun q y h => by simp at h)
end
theorem ints_of {P : Int → Prop} : ∀ {ys : List Value} {n : Nat}, ys.length = n → (∀ (i : Nat) y, ys[i]? = some y → ∃ k t, y = Value.int k t ∧ P k) → ∃ ks, IntsAre ys ks ∧ ks.length = n ∧ ∀ k ∈ ks, P k
  | [], n, hl, _ => ⟨[], .nil, hl, fun _ h => nomatch h⟩
  | y :: r, n, hl, h => by
    obtain ⟨k, t, rfl, hk⟩ := h 0 y rfl
    obtain ⟨ks, h1, h2, h3⟩ := ints_of (ys := r) rfl fun i y hy => h (i + 1) y hy
    refine ⟨k :: ks, .cons k t h1, ?_, fun q hq => ?_⟩
    · rw [List.length_cons, h2]; exact hl
    · rcases List.mem_cons.mp hq with rfl | hq
      · exact hk
      · exact h3 q hq
theorem sum_small : ∀ (ks : List Int), (∀ k ∈ ks, 0 ≤ k ∧ k < 5040) → 0 ≤ ks.sum ∧ ks.sum ≤ 5040 * ks.length
  | [], _ => by simp
  | k :: r, h => by
    have h1 := sum_small r fun q hq => h q (.tail _ hq)
    have h2 := h k (.head _)
    rw [List.sum_cons, List.length_cons]
    omega
theorem pick_ints {vs : List Value} {ns : List Int} (h : IntsAre vs ns) (lo hi st : Option Int) : ∃ ms, IntsAre (slicePick vs.toArray lo hi st).toList ms ∧ ms.length ≤ ns.length := by
  obtain ⟨ms, h1, h2, _⟩ := ints_of (P := fun _ => True) (ys := (slicePick vs.toArray lo hi st).toList) rfl fun i y hy => by
    have hm := List.mem_of_getElem? hy
    unfold slicePick at hm
    obtain ⟨q, _, hq⟩ := List.mem_filterMap.mp (by simpa using hm)
    obtain ⟨k, t, e, _⟩ := IntsAre.at h q y (by simpa using hq)
    exact ⟨k, t, e, trivial⟩
  refine ⟨ms, h1, ?_⟩
  have h3 := slicePick_size_le vs.toArray lo hi st
  rw [h2, Array.length_toList, ← h.length]
  simpa using h3
theorem starts_small : ∀ i < 7, 0 ≤ ([3, 1, 5, 0, 4, 2, 2] : List Int).getD (0 + ((i : Nat) : Int)).toNat 0 ∧ ([3, 1, 5, 0, 4, 2, 2] : List Int).getD (0 + ((i : Nat) : Int)).toNat 0 ≤ 5 := by decide
theorem sums_con (w : World) (ns : List Int) (la : Addr) (hn : ns.length ≤ 63) :
    Con w 126 3 [.ref la] (fun h => ∃ vs, h.IsList la vs.toArray ∧ IntsAre vs ns) (fun h r h' => ∃ a vs n xs, r = .ref a ∧ h.get? a = none ∧ h'.get? a = some (W.listOf vs.toArray n) ∧ IntsAre vs xs ∧ xs.length = 7 ∧ ∀ x ∈ xs, 0 ≤ x ∧ x < 400000) := by
  unfold Con; k_fill; w_top off
  intro mean mg mb A st Q E hA0 hA1 hA2 X T hp hret
  obtain ⟨ah, ad, af, ag, au⟩ := A
  cases hA0
  dsimp only at hA1 hA2
  obtain ⟨vs, hla, hvs⟩ := hp
  refine' enterC (binds := [(Str.ofString "script", .ref la)]) ?k1 ?k2 ?k6 ?k7 ?k8 ?k9 ?kB ?kD ?_ ?c2 ?c3 ?c4
  case k1 => k_asm
  case k2 => k_asm
  case k6 => k_is
  case k7 => k_is
  case k8 => dsimp only; omega
  case k9 => exact BindsTo.of_eq rfl
  case kB => exact fun n x hx => by (simp only [List.mem_singleton] at hx; subst hx; first | exact .inl rfl | exact .inr ⟨rfl, rfl⟩)
  case kD => decide +kernel
  case c2 => exact rfl
  case c3 => exact rfl
  case c4 => exact rfl
  k_whole
  intro L' h' tk' cells' F' N' Y'
  k_cells Y'
  try dsimp only
  try k_fold
  (repeat' (first | (k_unfold; (try dsimp only)) | (walk_at "m_calls") | (((walk_at "m_guard"; fail_if_success (with_reducible show wpAny _ _ (eval (Expr.ListComp _ _ _ _) _) _ _ _); fail_if_success (with_reducible show Held _); fail_if_success (with_reducible show wpAny _ _ (subscriptTail _ (Expr.Slice _ _ _ _) (Value.ref _) (Value.ref _)) _ _ _))); walk1) | (dsimp only; ((walk_at "m_guard"; fail_if_success (with_reducible show wpAny _ _ (eval (Expr.ListComp _ _ _ _) _) _ _ _); fail_if_success (with_reducible show Held _); fail_if_success (with_reducible show wpAny _ _ (subscriptTail _ (Expr.Slice _ _ _ _) (Value.ref _) (Value.ref _)) _ _ _))); walk1)))
  rename Fr _ _ _ _ => F4
  refine ListComp_H (F₀ := F4) (by with_unfolding_all rfl) (by decide) (by rfl) (by decide) (by rfl) ?_
  (repeat' (first | (k_unfold; (try dsimp only)) | (walk_at "m_calls") | (((walk_at "m_guard"; fail_if_success (with_reducible show wpAny _ _ (eval (Expr.ListComp _ _ _ _) _) _ _ _); fail_if_success (with_reducible show Held _); fail_if_success (with_reducible show wpAny _ _ (subscriptTail _ (Expr.Slice _ _ _ _) (Value.ref _) (Value.ref _)) _ _ _))); walk1) | (dsimp only; ((walk_at "m_guard"; fail_if_success (with_reducible show wpAny _ _ (eval (Expr.ListComp _ _ _ _) _) _ _ _); fail_if_success (with_reducible show Held _); fail_if_success (with_reducible show wpAny _ _ (subscriptTail _ (Expr.Slice _ _ _ _) (Value.ref _) (Value.ref _)) _ _ _))); walk1)))
  rename Fr _ _ _ _ => F5
  rename News _ _ _ _ => N5
  rename IsRange _ _ _ _ _ _ _ _ => R5
  refine ⟨?_⟩
  refine LCg.CompSrc.range (n := 7) rfl F5 N5 R5 (by decide) (by decide) (by decide) ?_
  intro g'
  refine kcr_rest (fun _ y => ∃ k t, y = Value.int k t ∧ (0 ≤ k ∧ k < 400000)) trivial ?turn ?fin
  case turn =>
    rintro i v I oI C oC D m₂ ys h tk hi ⟨ti, hv⟩ hC hx F N off ne
    subst hv
    k_sweep
    obtain ⟨ms, hm1, hm2⟩ := pick_ints hvs (some (0 + (i : Int))) (some 63) (some 7)
    (repeat' (first | (k_unfold; (try dsimp only)) | (walk_at "m_calls") | (((walk_at "m_guard"; fail_if_success (with_reducible show wpAny _ _ (eval (Expr.ListComp _ _ _ _) _) _ _ _); fail_if_success (with_reducible show Held _); fail_if_success (with_reducible show wpAny _ _ (subscriptTail _ (Expr.Slice _ _ _ _) (Value.ref _) (Value.ref _)) _ _ _))); walk1) | (dsimp only; ((walk_at "m_guard"; fail_if_success (with_reducible show wpAny _ _ (eval (Expr.ListComp _ _ _ _) _) _ _ _); fail_if_success (with_reducible show Held _); fail_if_success (with_reducible show wpAny _ _ (subscriptTail _ (Expr.Slice _ _ _ _) (Value.ref _) (Value.ref _)) _ _ _))); walk1)))
    rename Fr _ _ _ _ => F6
    refine ListComp_H (F₀ := F6) (by with_unfolding_all rfl) (by decide) (by rfl) (by decide) (by rfl) ?_
    (repeat' (first | (k_unfold; (try dsimp only)) | (walk_at "m_calls") | (((walk_at "m_guard"; fail_if_success (with_reducible show wpAny _ _ (eval (Expr.ListComp _ _ _ _) _) _ _ _); fail_if_success (with_reducible show Held _); fail_if_success (with_reducible show wpAny _ _ (subscriptTail _ (Expr.Slice _ _ _ _) (Value.ref _) (Value.ref _)) _ _ _))); walk1) | (dsimp only; ((walk_at "m_guard"; fail_if_success (with_reducible show wpAny _ _ (eval (Expr.ListComp _ _ _ _) _) _ _ _); fail_if_success (with_reducible show Held _); fail_if_success (with_reducible show wpAny _ _ (subscriptTail _ (Expr.Slice _ _ _ _) (Value.ref _) (Value.ref _)) _ _ _))); walk1)))
    rename Fr _ _ _ _ => F7
    rename News _ _ _ _ => N7
    refine ⟨?_⟩
    refine LCg.CompSrc.ledger rfl F7 N7 (.head _) (by have := hm1.length; rw [Array.length_toList] at this; rw [this, sizeLine_eq]; omega) ?_
    intro g''
    refine kcr_rest (fun _ y => ∃ k t, y = Value.int k t ∧ (0 ≤ k ∧ k < 5040)) (.inr ⟨_, .head _, rfl, _, rfl⟩) ?turn2 ?fin2
    case turn2 =>
      intro j v I2 oI2 C2 oC2 D2 m₃ ys2 h2 tk2 hj hv2 hC2 hx2 F N off2 ne2
      obtain ⟨kx, tx, hvx, hkx⟩ := IntsAre.at hm1 j v (by simpa using hv2)
      subst hvx
      k_sweep
      (repeat' (first | (k_unfold; (try dsimp only)) | (walk_at "m_calls") | (((walk_at "m_guard"; fail_if_success (with_reducible show wpAny _ _ (eval (Expr.ListComp _ _ _ _) _) _ _ _); fail_if_success (with_reducible show Held _); fail_if_success (with_reducible show wpAny _ _ (subscriptTail _ (Expr.Slice _ _ _ _) (Value.ref _) (Value.ref _)) _ _ _))); walk1) | (dsimp only; ((walk_at "m_guard"; fail_if_success (with_reducible show wpAny _ _ (eval (Expr.ListComp _ _ _ _) _) _ _ _); fail_if_success (with_reducible show Held _); fail_if_success (with_reducible show wpAny _ _ (subscriptTail _ (Expr.Slice _ _ _ _) (Value.ref _) (Value.ref _)) _ _ _))); walk1)))
      exact cut_end (by k_asm) (by k_asm) ⟨_, _, rfl, Int.fmod_nonneg_of_pos _ (by decide), Int.fmod_lt_of_pos _ (by decide)⟩
    intro ys2 hl2 hy2
    obtain ⟨ks, hk1, hk2, hk3⟩ := ints_of hl2 hy2
    unfold LCg.FinE
    intro D2 h2 tk2 F N o2
    k_sweep
    (repeat' (first | (k_unfold; (try dsimp only)) | (walk_at "m_calls") | (((walk_at "m_guard"; fail_if_success (with_reducible show wpAny _ _ (eval (Expr.ListComp _ _ _ _) _) _ _ _); fail_if_success (with_reducible show Held _); fail_if_success (with_reducible show wpAny _ _ (subscriptTail _ (Expr.Slice _ _ _ _) (Value.ref _) (Value.ref _)) _ _ _))); walk1) | (dsimp only; ((walk_at "m_guard"; fail_if_success (with_reducible show wpAny _ _ (eval (Expr.ListComp _ _ _ _) _) _ _ _); fail_if_success (with_reducible show Held _); fail_if_success (with_reducible show wpAny _ _ (subscriptTail _ (Expr.Slice _ _ _ _) (Value.ref _) (Value.ref _)) _ _ _))); walk1)))
    rename Fr _ _ _ _ => F8
    rename News _ _ _ _ => N8
    have hs1 := starts_small i hi
    have hs2 := sum_small ks hk3
    have hs3 := hm1.length
    rw [Array.length_toList] at hs3
    refine cut_end F8 (fun p hp => N8 p (.tail _ (.tail _ hp))) ⟨_, _, rfl, ?_, ?_⟩ <;> omega
  case fin =>
    intro ys hl hy
    obtain ⟨ks, hk1, hk2, hk3⟩ := ints_of hl hy
    unfold LCg.FinE
    intro D h tk F N o1
    k_sweep
    (repeat' (first | (k_unfold; (try dsimp only)) | (walk_at "m_calls") | (((walk_at "m_guard"; fail_if_success (with_reducible show wpAny _ _ (eval (Expr.ListComp _ _ _ _) _) _ _ _); fail_if_success (with_reducible show Held _); fail_if_success (with_reducible show wpAny _ _ (subscriptTail _ (Expr.Slice _ _ _ _) (Value.ref _) (Value.ref _)) _ _ _))); walk1) | (dsimp only; ((walk_at "m_guard"; fail_if_success (with_reducible show wpAny _ _ (eval (Expr.ListComp _ _ _ _) _) _ _ _); fail_if_success (with_reducible show Held _); fail_if_success (with_reducible show wpAny _ _ (subscriptTail _ (Expr.Slice _ _ _ _) (Value.ref _) (Value.ref _)) _ _ _))); walk1)))
    exact hret _ _ _ (Fr.keep (by k_asm)) ⟨_, ys, _, ks, rfl, News.fresh (by k_asm) (.head _), News.get (by k_asm) (.head _), hk1, hk2, hk3⟩
section
variable {prog : Program} {w : World} {A : Around} {E : Value → Shared → Prop} {s : Shared} {h₀ : Heap} {L : Addr} {m : Str → Option Value} {env : Env}
/-- what a source of a comprehension over a range from nought gives, the turns' name in a cell -/
structure SrcK (prog : Program) (w : World) (A : Around) (h₀ : Heap) (L : Addr) (m : Str → Option Value) (env : Env) (elt : PySem.Expr) (x : Str) (scope : Scope) (cl : List (Str × Addr)) (Q : Value → Shared → Prop) (xv : Value) (s₁ : Shared) : Prop where
  all : ∃ (Rl : Nat → Value → Prop) (r : Addr) (b : Int) (t u v : Tok) (n : Nat) (news : List (Addr × Obj)), xv = .ref r ∧ A.handled = none ∧ Fr h₀ L s₁.heap m ∧ News h₀ L s₁.heap news ∧ IsRange s₁.heap r 0 b 1 t u v ∧ Builtin.Range.small 0 b 1 = true ∧
    Builtin.Range.rangeSize 0 b 1 = ((n : Nat) : Int) ∧ n ≤ sizeLine ∧
    (∀ (i : Nat) (t : Tok) K oK I oI C oC D ys h tk, i < n → oK.data = .cell (some (.int (i : Int) t)) → Fr h₀ L h m → News h₀ L h ((K, oK) :: (I, oI) :: (C, oC) :: (D, LCg.lst ys) :: news) →
      wpAny (model prog w) A (eval elt (compEnvC scope ((x, K) :: cl) C env)) (Cut h₀ L (fun _ => m) ((K, oK) :: (I, oI) :: (C, oC) :: (D, LCg.lst ys) :: news) { s₁ with heap := h, toks := tk } (Rl i)) (fun _ _ => False) { s₁ with heap := h, toks := tk }) ∧
    (∀ ys D h tk, ys.length = n → (∀ (i : Nat) y, ys[i]? = some y → Rl i y) → Fr h₀ L h m → News h₀ L h ((D, LCg.lst ys) :: news) → Q (.ref D) { s₁ with heap := h, toks := tk })
theorem ListComp_K {elt iter : PySem.Expr} {x : Str} {px : Pos} {scope : Scope} {cl : List (Str × Addr)} {pos : Pos} {Q : Value → Shared → Prop}
    (_F₀ : Fr h₀ L s.heap m) (hclos : closureFor scope env = pure cl) (hcl : ∀ n, cellsFrom n scope.names cl = (x, n) :: cl) (hpc : ∀ h, pushCells h scope.names = h.push { cls := .type "cell", data := .cell none }) (hkind : scope.kind = .function)
    (hnames : ∀ y ∈ scope.names, y.2 = .local → scope.names.lookup y.1 = some .local) (hx : ∀ K C, (compEnvC scope ((x, K) :: cl) C env).kindOf x = some .cell)
    (h : wpAny (model prog w) A (eval iter env) (SrcK prog w A h₀ L m env elt x scope cl Q) E s)
    (hs : ∀ x, foldedSetIterable iter env x = pure x := by intro _; rfl) :
    wpAny (model prog w) A (eval (.ListComp elt [⟨.Name x px, iter, [], 0⟩] scope pos) env) Q E s := by
  rw [eval_ListComp]
  refine wpAny_comprehension_free (use := none) rfl hs hclos hkind hnames (wpAny_mono h (fun xv s₁ h₁ => ?_) fun _ _ e => e)
  obtain ⟨Rl, r, b, t, u, v, n, news, rfl, hh, F, N, hr, hsm, hn, hsz, turn, fin⟩ := h₁.all
  refine wpAny_pyIter_range hr hsm ?_
  have W := LCg.range_walks (prog := prog) (w := w) (I := s₁.heap.objs.size) hh 0 n
  generalize hH1 : s₁.heap.push _ = H1
  have hst : IsRangeIter H1 s₁.heap.objs.size (0 + ((0 : Nat) : Int) * 1) ((n : Int) - ((0 : Nat) : Int)) 1 := by
    rw [← hH1]
    show IsRangeIter _ _ _ _ _
    rw [hn]; simpa using Heap.get?_push_size _ rfl
  have hI1 : H1.objs.size = s₁.heap.objs.size + 1 := by rw [← hH1, Heap.size_push]
  have k1 : ∀ b o, s₁.heap.get? b = some o → H1.get? b = some o := fun b o e => hH1 ▸ Heap.get?_push_of_some _ e
  refine wpAny_newObj_type ?_
  dsimp only
  generalize hH2 : H1.push { cls := .type "list", dict := none, data := .seq ([] : List Value).toArray } = H2
  have hI2 : H2.objs.size = s₁.heap.objs.size + 2 := by rw [← hH2, Heap.size_push, hI1]
  have k2 : ∀ b o, H1.get? b = some o → H2.get? b = some o := fun b o e => hH2 ▸ Heap.get?_push_of_some _ e
  have hD2 : H2.get? H1.objs.size = some (LCg.lst []) := hH2 ▸ Heap.get?_push_size _ rfl
  simp only [newFunctionEnv, Option.isSome_some, if_true]
  refine wpAny_bind (wpAny_alloc ?_)
  generalize hH3 : H2.push { cls := .type "dict", data := .dict #[] } = H3
  have hI3 : H3.objs.size = s₁.heap.objs.size + 3 := by rw [← hH3, Heap.size_push, hI2]
  have k3 : ∀ b o, H2.get? b = some o → H3.get? b = some o := fun b o e => hH3 ▸ Heap.get?_push_of_some _ e
  refine wpAny_bind (wpAny_layCells _ (fun name kind cells => by cases hkc : kind == NameKind.cell <;> simp [hkc]) _ _ _ _ ?_)
  dsimp only
  rw [hcl, hpc]
  generalize hH4 : H3.push { cls := .type "cell", data := .cell none } = H4
  have hI4 : H4.objs.size = s₁.heap.objs.size + 4 := by rw [← hH4, Heap.size_push, hI3]
  have k4 : ∀ b o, H3.get? b = some o → H4.get? b = some o := fun b o e => hH4 ▸ Heap.get?_push_of_some _ e
  have hK4 : H4.get? H3.objs.size = some { cls := .type "cell", data := .cell none } := hH4 ▸ Heap.get?_push_size _ rfl
  have hC3 : H3.get? H2.objs.size = some { cls := .type "dict", data := .dict #[] } := hH3 ▸ Heap.get?_push_size _ rfl
  have k14 : ∀ b o, H1.get? b = some o → H4.get? b = some o := fun b o e => k4 _ _ (k3 _ _ (k2 _ _ e))
  have k04 : ∀ b o, s₁.heap.get? b = some o → H4.get? b = some o := fun b o e => k14 _ _ (k1 _ _ e)
  simp only [List.forIn_nil]
  refine wpAny_bind (wpAny_pure (wpAny_pure ?_))
  dsimp only
  have hst4 : IsRangeIter H4 s₁.heap.objs.size (0 + ((0 : Nat) : Int) * 1) ((n : Int) - ((0 : Nat) : Int)) 1 := k14 _ _ hst
  have hCo : LCg.NsObj { cls := .type "dict", data := .dict #[] } (fun _ => none) := by
    obtain ⟨o, e, x⟩ := LCg.ns_obj (Heap.Ns.new H2 (.type "dict"))
    rw [hH3, hC3] at e
    exact Option.some.inj e ▸ x
  have fresh₀ : ∀ a, s₁.heap.objs.size ≤ a → h₀.get? a = none := fun a ha => by
    cases e : h₀.get? a with
    | none => rfl
    | some o' => exact absurd (Heap.lt_size (F.keep a o' e)) (Nat.not_lt.mpr ha)
  have hLI : L < s₁.heap.objs.size := F.ns.lt
  have hNI : ∀ p ∈ news, p.1 < s₁.heap.objs.size := fun p hp => Heap.lt_size (N p hp).1
  have F4 : Fr h₀ L H4 m := F.keeps k04
  have N4 : News h₀ L H4 news := N.grown k04
  have hD4 : H4.get? H1.objs.size = some (LCg.lst []) := k4 _ _ (k3 _ _ hD2)
  have hC4 : H4.get? H2.objs.size = some { cls := .type "dict", data := .dict #[] } := k4 _ _ hC3
  clear hst hH1 hH2 hH3 hH4 k1 k2 k3 k4 k14 k04 hD2 hC3 hI4
  generalize hI : s₁.heap.objs.size = I at *
  generalize hD : H1.objs.size = D at *
  generalize hC : H2.objs.size = C at *
  generalize hK : H3.objs.size = K at *
  have nL : ∀ a, I ≤ a → L ≠ a ∧ a ≠ L := fun a ha => ⟨Nat.ne_of_lt (Nat.lt_of_lt_of_le hLI ha), Nat.ne_of_gt (Nat.lt_of_lt_of_le hLI ha)⟩
  have nN : ∀ p ∈ news, ∀ a, I ≤ a → p.1 ≠ a := fun p hp a ha => Nat.ne_of_lt (Nat.lt_of_lt_of_le (hNI p hp) ha)
  have hIK : I ≤ K := by omega
  have hIC : I ≤ C := by omega
  have hID : I ≤ D := by omega
  have hII : I ≤ I := Nat.le_refl _
  have loop : ∀ s₃ : Shared, s₃ = { s₁ with heap := H4 } →
      codeAny (model prog w) A (.compLoop (.ListComp elt [⟨.Name x px, iter, [], 0⟩] scope pos) 0 (.ref I) (.ref D) (compEnvC scope ((x, K) :: cl) C env))
        (compPost (model prog w) A E none Q (.ref D) C) s₃ := by
    rintro s₃ rfl
    refine codeAny_compLoop_tests
      (fun k s' => ∃ h' tk i ys oK v₀, s' = { s₁ with heap := h', toks := tk } ∧ i ≤ n ∧ k = n + 1 - i ∧ ys.length = i ∧ (∀ (q : Nat) y, ys[q]? = some y → Rl q y) ∧ IsRangeIter h' I (0 + (i : Int) * 1) ((n : Int) - (i : Nat)) 1 ∧ Fr h₀ L h' m ∧
        h'.get? K = some oK ∧ oK.data = .cell v₀ ∧ h'.get? C = some { cls := .type "dict", data := .dict #[] } ∧ h'.get? D = some (LCg.lst ys) ∧ News h₀ L h' news) ?_ (n + 1)
      ⟨H4, _, 0, [], _, _, rfl, Nat.zero_le _, rfl, rfl, fun q y h => by simp at h, hst4, F4, hK4, rfl, hC4, hD4, N4⟩
    rintro k s' ⟨h', tk, i, ys, oK, v₀, rfl, hi, rfl, hyl, hRl, hst', F', hK', hKd, hC', hD', N'⟩
    by_cases hlt : i < n
    · refine W.item i _ _ _ hlt hst' fun v h₂ tk₂ hPv hst₂ hk₂ => ?_
      obtain ⟨t₂, rfl⟩ := hPv
      have g₂ : ∀ b o, b ≠ I → h'.get? b = some o → h₂.get? b = some o := fun b o hb e => hk₂ b o (by simpa using hb) e
      refine wpAny_assign_Name (wpAny_storeName_cell (by simp [compEnvC, relabel, hkind]) (hx K C) (show List.lookup x ((x, K) :: cl) = some K by simp [List.lookup_cons]) ⟨oK, g₂ _ _ (by omega) hK', hKd⟩ (fun h₃ hv₃ hs₃ => ?_))
      refine wpAny_tests_nil ?_
      simp only [if_true]
      obtain ⟨oK₃, eK₃, dK₃⟩ := hv₃
      have g₃ : ∀ b o, b ≠ K → h₂.get? b = some o → h₃.get? b = some o := fun b o hb e => hs₃.extBut b o hb e
      have hst₃ : IsRangeIter h₃ I (0 + ((i + 1 : Nat) : Int) * 1) ((n : Int) - ((i + 1 : Nat) : Int)) 1 := g₃ _ _ (by omega) hst₂
      obtain ⟨oI, eI₃, back⟩ : ∃ o, h₃.get? I = some o ∧ ∀ h : Heap, h.get? I = some o → IsRangeIter h I (0 + ((i + 1 : Nat) : Int) * 1) ((n : Int) - ((i + 1 : Nat) : Int)) 1 := ⟨_, hst₃, fun h e => e⟩
      have F₃ : Fr h₀ L h₃ m := (LCg.fr_but F' hk₂ (nL _ hII).1 (fresh₀ _ hII)).change hs₃ (nL _ hIK).2 (fresh₀ _ hIK)
      have N₃ : News h₀ L h₃ news := fun p hp => ⟨g₃ _ _ (nN p hp _ hIK) (g₂ _ _ (nN p hp _ hII) (N' p hp).1), (N' p hp).2⟩
      refine wpAny_mono (turn i t₂ K oK₃ I oI C { cls := .type "dict", data := .dict #[] } D ys h₃ tk₂ hlt (by rw [dK₃, Int.zero_add]) F₃ (fun p hp => ?_)) (fun y s₄ hc₄ => ?_) fun _ _ e => e.elim
      · rcases List.mem_cons.mp hp with rfl | hp
        · exact ⟨eK₃, (nL _ hIK).2, fresh₀ _ hIK⟩
        rcases List.mem_cons.mp hp with rfl | hp
        · exact ⟨eI₃, (nL _ hII).2, fresh₀ _ hII⟩
        rcases List.mem_cons.mp hp with rfl | hp
        · exact ⟨g₃ _ _ (by show C ≠ K; omega) (g₂ _ _ (by show C ≠ I; omega) hC'), (nL _ hIC).2, fresh₀ _ hIC⟩
        rcases List.mem_cons.mp hp with rfl | hp
        · exact ⟨g₃ _ _ (by show D ≠ K; omega) (g₂ _ _ (by show D ≠ I; omega) hD'), (nL _ hID).2, fresh₀ _ hID⟩
        · exact N₃ p hp
      obtain ⟨h₄, tk₄, rfl, F₄, N₄, hr₄⟩ := hc₄.all
      have zK := (N₄ _ List.mem_cons_self).1
      have zI := (N₄ _ (.tail _ List.mem_cons_self)).1
      have zC := (N₄ _ (.tail _ (.tail _ List.mem_cons_self))).1
      have zD := (N₄ _ (.tail _ (.tail _ (.tail _ List.mem_cons_self)))).1
      refine append_at (hsz := by show ys.toArray.size ≤ sizeLine; rw [List.size_toArray, hyl]; exact Nat.le_trans hi hsz) zD fun h₅ hs₅ hD₅ => ?_
      have g₅ : ∀ b o, b ≠ D → h₄.get? b = some o → h₅.get? b = some o := fun b o hb e => hs₅.extBut b o hb e
      refine ⟨n + 1 - (i + 1), by omega, h₅, tk₄, i + 1, ys ++ [y], oK₃, _, rfl, hlt, rfl, by rw [List.length_append, List.length_singleton, hyl], fun q y₂ hq => ?_, back _ (g₅ _ _ (by omega) zI), F₄.change hs₅ (nL _ hID).2 (fresh₀ _ hID), g₅ _ _ (by omega) zK, dK₃, g₅ _ _ (by omega) zC, hD₅.trans (congrArg some (LCg.lst_snoc ys y)), fun p hp => ?_⟩
      · rcases Nat.lt_or_ge q ys.length with h1 | h1
        · rw [List.getElem?_append_left h1] at hq
          exact hRl q y₂ hq
        · rw [List.getElem?_append_right h1] at hq
          rcases Nat.eq_zero_or_pos (q - ys.length) with h2 | h2
          · rw [h2] at hq
            have e2 : y = y₂ := by simpa using hq
            subst e2
            have e3 : q = i := by omega
            rw [e3]; exact hr₄
          · rw [List.getElem?_eq_none (by show 1 ≤ q - ys.length; omega)] at hq; cases hq
      · exact ⟨g₅ _ _ (nN p hp _ hID) (N₄ p (.tail _ (.tail _ (.tail _ (.tail _ hp))))).1, (N₃ p hp).2⟩
    · obtain rfl : i = n := Nat.le_antisymm hi (Nat.not_lt.mp hlt)
      refine W.done _ _ _ hst' fun h₂ tk₂ hk₂ => ?_
      have g₂ : ∀ b o, b ≠ I → h'.get? b = some o → h₂.get? b = some o := fun b o hb e => hk₂ b o (by simpa using hb) e
      refine ⟨_, hCo.ns (g₂ _ _ (by omega) hC'), fun h₃ hs₃ => ?_⟩
      have g₃ : ∀ b o, b ≠ C → h₂.get? b = some o → h₃.get? b = some o := fun b o hb e => hs₃.extBut b o hb e
      refine fin ys D h₃ tk₂ hyl hRl ((LCg.fr_but F' hk₂ (nL _ hII).1 (fresh₀ _ hII)).change hs₃ (nL _ hIC).2 (fresh₀ _ hIC)) fun p hp => ?_
      rcases List.mem_cons.mp hp with rfl | hp
      · exact ⟨g₃ _ _ (by show D ≠ C; omega) (g₂ _ _ (by show D ≠ I; omega) hD'), (nL _ hID).2, fresh₀ _ hID⟩
      · exact ⟨g₃ _ _ (nN p hp _ hIC) (g₂ _ _ (nN p hp _ hII) (N' p hp).1), (N' p hp).2⟩
  exact codeAny_compStart_list (loop _ rfl) (W.self 0 _ _ _ hst4 (loop _ rfl))
end
theorem ints_pt : ∀ {ys : List Value} {ks : List Int}, ys.length = ks.length → (∀ (i : Nat) y, ys[i]? = some y → ∃ t, y = Value.int (ks.getD i 0) t) → IntsAre ys ks
  | [], [], _, _ => .nil
  | [], _ :: _, h, _ => nomatch h
  | _ :: _, [], h, _ => nomatch h
  | y :: r, k :: q, hl, h => by
    obtain ⟨t, e⟩ := h 0 y rfl
    subst e
    exact .cons k t (ints_pt (by simpa using hl) fun i y hy => h (i + 1) y hy)
def over (i : Nat) (v : Value) : Bool := match v with | .int a _ => decide ((i : Int) < a) | _ => false
theorem over_count : ∀ {vs : List Value} {zs : List Nat}, IntsAre vs (zs.map Int.ofNat) → ∀ i, (((vs.filter (over i)).length : Nat) : Int) = cnt zs i
  | _, [], h, i => by cases h; rfl
  | _, z :: r, h, i => by
    cases h with
    | cons k t h =>
      have h1 := over_count h i
      unfold cnt at h1 ⊢
      have e : over i (Value.int (Int.ofNat z) t) = decide (i < z) := by
        show decide ((i : Int) < Int.ofNat z) = decide (i < z)
        simp
      rw [List.filter_cons, List.filter_cons, e]
      by_cases q : i < z
      · simp only [q, decide_true, if_true, List.length_cons]; omega
      · simp only [q, decide_false]; exact h1
theorem same_list {α : Type} {vs us : List α} (hl : us.length = vs.length) (h : ∀ (j : Nat) v, us[j]? = some v → vs[j]? = some v) : us = vs := by
  apply List.ext_getElem? 
  intro j
  rcases Nat.lt_or_ge j us.length with h1 | h1
  · rw [List.getElem?_eq_getElem h1]; exact (h j _ (List.getElem?_eq_getElem h1)).symm
  · rw [List.getElem?_eq_none h1, List.getElem?_eq_none (by omega)]
theorem over_push {h₀ h h₂ : Heap} {L : Addr} {m : Str → Option Value} {news : List (Addr × Obj)} {o' : Obj} (F : Fr h₀ L h m) (N : News h₀ L h news) (hk : ∀ b o, b ∉ [h.objs.size] → (h.push o').get? b = some o → h₂.get? b = some o) :
    Fr h₀ L h₂ m ∧ News h₀ L h₂ news :=
  have up : ∀ b o, h.get? b = some o → h₂.get? b = some o := fun b o e => hk b o (by simpa using Nat.ne_of_lt (Heap.lt_size e)) (Heap.get?_push_of_some _ e)
  ⟨F.keeps up, N.grown up⟩
theorem push_fresh {h₀ h : Heap} {L a : Addr} {m : Str → Option Value} {o' : Obj} (F : Fr h₀ L h m) (ha : (h.push o').get? a = none) : h₀.get? a = none ∧ a ≠ L := by
  constructor
  · cases e : h₀.get? a with
    | none => rfl
    | some o => rw [Heap.get?_push_of_some _ (F.keep a o e)] at ha; cases ha
  · intro e
    obtain ⟨oL, _, _, hL, _⟩ := F.ns
    rw [e, Heap.get?_push_of_some _ hL] at ha; cases ha
theorem counts_con (w : World) (zs : List Nat) (la : Addr) (hn : zs.length ≤ 63) :
    Con w 131 3 [.ref la] (fun h => ∃ vs, h.IsList la vs.toArray ∧ IntsAre vs (zs.map Int.ofNat)) (fun h r h' => ∃ a vs n, r = .ref a ∧ h.get? a = none ∧ h'.get? a = some (W.listOf vs.toArray n) ∧ IntsAre vs (counts zs)) := by
  unfold Con; k_fill; w_top off
  intro mean mg mb A st Q E hA0 hA1 hA2 X T hp hret
  obtain ⟨ah, ad, af, ag, au⟩ := A
  cases hA0
  dsimp only at hA1 hA2
  obtain ⟨vs, hla, hvs⟩ := hp
  refine' enterC (binds := [(Str.ofString "sizes", .ref la)]) ?k1 ?k2 ?k6 ?k7 ?k8 ?k9 ?kB ?kD ?_ ?c2 ?c3 ?c4
  case k1 => k_asm
  case k2 => k_asm
  case k6 => k_is
  case k7 => k_is
  case k8 => dsimp only; omega
  case k9 => exact BindsTo.of_eq rfl
  case kB => exact fun n x hx => by (simp only [List.mem_singleton] at hx; subst hx; first | exact .inl rfl | exact .inr ⟨rfl, rfl⟩)
  case kD => decide +kernel
  case c2 => exact rfl
  case c3 => exact rfl
  case c4 => exact rfl
  k_whole
  intro L' h' tk' cells' F' N' Y'
  k_cells Y'
  try dsimp only
  try k_fold
  (repeat' (first | (k_unfold; (try dsimp only)) | (walk_at "m_calls") | (((walk_at "m_guard"; fail_if_success (with_reducible show wpAny _ _ (eval (Expr.ListComp _ _ _ _) _) _ _ _); fail_if_success (with_reducible show SrcK _ _ _ _ _ _ _ _ _ _ _ _ _ _); fail_if_success (with_reducible show wpAny _ _ (subscriptTail _ (Expr.Slice _ _ _ _) (Value.ref _) (Value.ref _)) _ _ _))); walk1) | (dsimp only; ((walk_at "m_guard"; fail_if_success (with_reducible show wpAny _ _ (eval (Expr.ListComp _ _ _ _) _) _ _ _); fail_if_success (with_reducible show SrcK _ _ _ _ _ _ _ _ _ _ _ _ _ _); fail_if_success (with_reducible show wpAny _ _ (subscriptTail _ (Expr.Slice _ _ _ _) (Value.ref _) (Value.ref _)) _ _ _))); walk1)))
  rename Fr _ _ _ _ => F4
  refine ListComp_K F4 (by with_unfolding_all rfl) (fun n => by with_unfolding_all rfl) (fun h => by with_unfolding_all rfl) (by rfl) (by decide) (fun K C => by with_unfolding_all rfl) ?_
  (repeat' (first | (k_unfold; (try dsimp only)) | (walk_at "m_calls") | (((walk_at "m_guard"; fail_if_success (with_reducible show wpAny _ _ (eval (Expr.ListComp _ _ _ _) _) _ _ _); fail_if_success (with_reducible show SrcK _ _ _ _ _ _ _ _ _ _ _ _ _ _); fail_if_success (with_reducible show wpAny _ _ (subscriptTail _ (Expr.Slice _ _ _ _) (Value.ref _) (Value.ref _)) _ _ _))); walk1) | (dsimp only; ((walk_at "m_guard"; fail_if_success (with_reducible show wpAny _ _ (eval (Expr.ListComp _ _ _ _) _) _ _ _); fail_if_success (with_reducible show SrcK _ _ _ _ _ _ _ _ _ _ _ _ _ _); fail_if_success (with_reducible show wpAny _ _ (subscriptTail _ (Expr.Slice _ _ _ _) (Value.ref _) (Value.ref _)) _ _ _))); walk1)))
  rename Fr _ _ _ _ => F5
  rename News _ _ _ _ => N5
  rename IsRange _ _ _ _ _ _ _ _ => R5
  refine ⟨⟨fun i y => ∃ t, y = Value.int (cnt zs i) t, _, _, _, _, _, 5, _, rfl, rfl, F5, N5, R5, by decide, by decide, by decide, ?turn, ?fin⟩⟩
  case fin =>
    intro ys D h tk hl hy F N
    k_sweep
    (repeat' (first | (k_unfold; (try dsimp only)) | (walk_at "m_calls") | (((walk_at "m_guard"; fail_if_success (with_reducible show wpAny _ _ (eval (Expr.ListComp _ _ _ _) _) _ _ _); fail_if_success (with_reducible show SrcK _ _ _ _ _ _ _ _ _ _ _ _ _ _); fail_if_success (with_reducible show wpAny _ _ (subscriptTail _ (Expr.Slice _ _ _ _) (Value.ref _) (Value.ref _)) _ _ _))); walk1) | (dsimp only; ((walk_at "m_guard"; fail_if_success (with_reducible show wpAny _ _ (eval (Expr.ListComp _ _ _ _) _) _ _ _); fail_if_success (with_reducible show SrcK _ _ _ _ _ _ _ _ _ _ _ _ _ _); fail_if_success (with_reducible show wpAny _ _ (subscriptTail _ (Expr.Slice _ _ _ _) (Value.ref _) (Value.ref _)) _ _ _))); walk1)))
    exact hret _ _ _ (Fr.keep (by k_asm)) ⟨_, ys, _, rfl, News.fresh (by k_asm) (.head _), News.get (by k_asm) (.head _), ints_pt (by rw [hl]; simp [counts]) fun i y hq => by
      obtain ⟨t, e⟩ := hy i y hq
      have hi : i < 5 := by
        rcases Nat.lt_or_ge i ys.length with h1 | h1
        · omega
        · rw [List.getElem?_eq_none h1] at hq; cases hq
      exact ⟨t, by rw [e]; simp [counts, hi]⟩⟩
  rintro i ti K oK I oI C oC D ys h tk hi hKd F N
  k_sweep
  (repeat' (first | (k_unfold; (try dsimp only)) | (walk_at "m_calls") | (((walk_at "m_guard"; fail_if_success (with_reducible show wpAny _ _ (eval (Expr.ListComp _ _ _ _) _) _ _ _); fail_if_success (with_reducible show SrcK _ _ _ _ _ _ _ _ _ _ _ _ _ _); fail_if_success (with_reducible show wpAny _ _ (subscriptTail _ (Expr.Slice _ _ _ _) (Value.ref _) (Value.ref _)) _ _ _))); walk1) | (dsimp only; ((walk_at "m_guard"; fail_if_success (with_reducible show wpAny _ _ (eval (Expr.ListComp _ _ _ _) _) _ _ _); fail_if_success (with_reducible show SrcK _ _ _ _ _ _ _ _ _ _ _ _ _ _); fail_if_success (with_reducible show wpAny _ _ (subscriptTail _ (Expr.Slice _ _ _ _) (Value.ref _) (Value.ref _)) _ _ _))); walk1)))
  refine wpAny_ListComp_free (over i) (fun _ _ => True) (by with_unfolding_all rfl) (by decide) (by rfl) (by decide) (by rfl) ?_
  (repeat' (first | (k_unfold; (try dsimp only)) | (walk_at "m_calls") | (((walk_at "m_guard"; fail_if_success (with_reducible show wpAny _ _ (eval (Expr.ListComp _ _ _ _) _) _ _ _); fail_if_success (with_reducible show SrcK _ _ _ _ _ _ _ _ _ _ _ _ _ _); fail_if_success (with_reducible show wpAny _ _ (subscriptTail _ (Expr.Slice _ _ _ _) (Value.ref _) (Value.ref _)) _ _ _))); walk1) | (dsimp only; ((walk_at "m_guard"; fail_if_success (with_reducible show wpAny _ _ (eval (Expr.ListComp _ _ _ _) _) _ _ _); fail_if_success (with_reducible show SrcK _ _ _ _ _ _ _ _ _ _ _ _ _ _); fail_if_success (with_reducible show wpAny _ _ (subscriptTail _ (Expr.Slice _ _ _ _) (Value.ref _) (Value.ref _)) _ _ _))); walk1)))
  rename Fr _ _ _ _ => F6
  rename News _ _ _ _ => N6
  have hl6 := hla.at fun o e => F6.keep _ o e
  have hlt6 := (let ⟨_, e, _⟩ := hl6; Heap.lt_size e)
  refine wpAny_pyIter_list hl6 ?_
  refine ⟨_, _, _, _, _, _, rfl, Walks.list rfl _ la (Nat.ne_of_lt hlt6) vs.toArray, by rw [List.size_toArray, hvs.length, List.length_map, sizeLine_eq]; omega, ⟨⟨_, Heap.get?_push_size _ rfl, rfl, rfl⟩, hl6.push _⟩, ?fp, ⟨?tests, ?elt⟩, ?fin2⟩
  case fp =>
    intro b hb
    dsimp only
    rw [Heap.size_push]
    rcases List.mem_cons.mp hb with rfl | hb
    · exact Nat.lt_succ_self _
    · rw [List.mem_singleton.mp hb]; exact Nat.lt_succ_of_lt hlt6
  case fin2 =>
    intro D2 h2 tk2 ys2 vs2 hD2 hl2 hpl2 hlen2 hP2 hF2 hk2
    have e2 : vs2 = vs := same_list (by rw [hlen2, List.size_toArray]) fun j v q => by simpa using hP2 j v q
    subst e2
    have hcnt := over_count hvs i
    have hys : ys2.size = (vs2.filter (over i)).length := by rw [hF2.length, Array.length_toList]
    obtain ⟨c2, hc2⟩ := hpl2
    obtain ⟨F7, N7⟩ := over_push F6 N6 hk2
    obtain ⟨f1, f2⟩ := push_fresh F6 hD2
    have N8 : News st.heap L' h2 ((D2, W.listOf ys2.toList.toArray c2) :: _) := fun p hp => by
      rcases List.mem_cons.mp hp with rfl | hp
      · rw [Array.toArray_toList]; exact ⟨hc2, f2, f1⟩
      · exact N7 p hp
    clear N7 N6
    k_sweep
    (repeat' (first | (k_unfold; (try dsimp only)) | (walk_at "m_calls") | (((walk_at "m_guard"; fail_if_success (with_reducible show wpAny _ _ (eval (Expr.ListComp _ _ _ _) _) _ _ _); fail_if_success (with_reducible show SrcK _ _ _ _ _ _ _ _ _ _ _ _ _ _); fail_if_success (with_reducible show wpAny _ _ (subscriptTail _ (Expr.Slice _ _ _ _) (Value.ref _) (Value.ref _)) _ _ _))); walk1) | (dsimp only; ((walk_at "m_guard"; fail_if_success (with_reducible show wpAny _ _ (eval (Expr.ListComp _ _ _ _) _) _ _ _); fail_if_success (with_reducible show SrcK _ _ _ _ _ _ _ _ _ _ _ _ _ _); fail_if_success (with_reducible show wpAny _ _ (subscriptTail _ (Expr.Slice _ _ _ _) (Value.ref _) (Value.ref _)) _ _ _))); walk1)))
    rename News _ _ _ _ => N9
    have hfl := List.length_filter_le (over i) vs2
    have hvl := hvs.length
    rw [List.length_map] at hvl
    refine len_list (News.isList N9 (.head _)) (by rw [Array.toArray_toList, hys]; omega) ?_
    (repeat' (first | (k_unfold; (try dsimp only)) | (walk_at "m_calls") | (((walk_at "m_guard"; fail_if_success (with_reducible show wpAny _ _ (eval (Expr.ListComp _ _ _ _) _) _ _ _); fail_if_success (with_reducible show SrcK _ _ _ _ _ _ _ _ _ _ _ _ _ _); fail_if_success (with_reducible show wpAny _ _ (subscriptTail _ (Expr.Slice _ _ _ _) (Value.ref _) (Value.ref _)) _ _ _))); walk1) | (dsimp only; ((walk_at "m_guard"; fail_if_success (with_reducible show wpAny _ _ (eval (Expr.ListComp _ _ _ _) _) _ _ _); fail_if_success (with_reducible show SrcK _ _ _ _ _ _ _ _ _ _ _ _ _ _); fail_if_success (with_reducible show wpAny _ _ (subscriptTail _ (Expr.Slice _ _ _ _) (Value.ref _) (Value.ref _)) _ _ _))); walk1)))
    rename Fr _ _ _ _ => F9
    have hz9 : ((ys2.toList.toArray.size : Nat) : Int) = cnt zs i := by rw [Array.toArray_toList, hys]; exact hcnt
    exact cut_end F9 (fun p hp => N9 p (.tail _ hp)) ⟨_, congrArg (fun z => Value.int z _) hz9⟩
  case elt =>
    intro C2 j v s3 m3 E' hC2 hv hpv hn3 hm3 hk3 ht3
    dsimp only at hC2 hk3
    obtain ⟨F7, N7⟩ := over_push F6 N6 hk3
    obtain ⟨oC2, eC2, hNs⟩ := LCg.ns_obj hn3
    obtain ⟨f1, f2⟩ := push_fresh F6 (Heap.get?_none_of_le hC2)
    have N8 : News st.heap L' s3.heap ((C2, oC2) :: _) := fun p hp => by
      rcases List.mem_cons.mp hp with rfl | hp
      · exact ⟨eC2, f2, f1⟩
      · exact N7 p hp
    clear N7 N6
    k_sweep
    (repeat' (first | (k_unfold; (try dsimp only)) | (walk_at "m_calls") | (((walk_at "m_guard"; fail_if_success (with_reducible show wpAny _ _ (eval (Expr.ListComp _ _ _ _) _) _ _ _); fail_if_success (with_reducible show SrcK _ _ _ _ _ _ _ _ _ _ _ _ _ _); fail_if_success (with_reducible show wpAny _ _ (subscriptTail _ (Expr.Slice _ _ _ _) (Value.ref _) (Value.ref _)) _ _ _))); walk1) | (dsimp only; ((walk_at "m_guard"; fail_if_success (with_reducible show wpAny _ _ (eval (Expr.ListComp _ _ _ _) _) _ _ _); fail_if_success (with_reducible show SrcK _ _ _ _ _ _ _ _ _ _ _ _ _ _); fail_if_success (with_reducible show wpAny _ _ (subscriptTail _ (Expr.Slice _ _ _ _) (Value.ref _) (Value.ref _)) _ _ _))); walk1)))
    · trivial
    · exact ⟨_, _, rfl, fun b o e => e⟩
  case tests =>
    intro C2 j v s3 m3 E' hC2 hv hn3 hm3 hk3 ht3
    dsimp only at hC2 hk3
    refine wpAny_tests_one ?_
    obtain ⟨F7, N7⟩ := over_push F6 N6 hk3
    obtain ⟨oC2, eC2, hNs⟩ := LCg.ns_obj hn3
    obtain ⟨f1, f2⟩ := push_fresh F6 (Heap.get?_none_of_le hC2)
    have N8 : News st.heap L' s3.heap ((C2, oC2) :: _) := fun p hp => by
      rcases List.mem_cons.mp hp with rfl | hp
      · exact ⟨eC2, f2, f1⟩
      · exact N7 p hp
    clear N7 N6
    obtain ⟨kv, tv, ev, _⟩ := IntsAre.at hvs j v (by simpa using hv)
    subst ev
    k_sweep
    (repeat' (first | (k_unfold; (try dsimp only)) | (walk_at "m_calls") | (((walk_at "m_guard"; fail_if_success (with_reducible show wpAny _ _ (eval (Expr.ListComp _ _ _ _) _) _ _ _); fail_if_success (with_reducible show SrcK _ _ _ _ _ _ _ _ _ _ _ _ _ _); fail_if_success (with_reducible show wpAny _ _ (subscriptTail _ (Expr.Slice _ _ _ _) (Value.ref _) (Value.ref _)) _ _ _))); walk1) | (dsimp only; ((walk_at "m_guard"; fail_if_success (with_reducible show wpAny _ _ (eval (Expr.ListComp _ _ _ _) _) _ _ _); fail_if_success (with_reducible show SrcK _ _ _ _ _ _ _ _ _ _ _ _ _ _); fail_if_success (with_reducible show wpAny _ _ (subscriptTail _ (Expr.Slice _ _ _ _) (Value.ref _) (Value.ref _)) _ _ _))); walk1)))
    exact ⟨_, _, rfl, fun b o e => e⟩
/-- the plain sums of the way lengths -/
def gapF (zs ys : List Nat) : Int := (zs.map fun (i : Nat) => (ys.map fun (j : Nat) => (((i : Int) - (j : Int)).natAbs : Int)).sum).sum
def ab (i k : Nat) : Int := if k < i then 1 else 0
theorem cnt_cons (i k : Nat) (r : List Nat) : cnt (i :: r) k = ab i k + cnt r k := by
  unfold cnt ab
  by_cases h : k < i
  · simp [h]; omega
  · simp [h]
theorem gap_one : ∀ i < 6, ∀ j < 6, (((i : Nat) : Int) - ((j : Nat) : Int)).natAbs = (ab i 0 + ab j 0 - 2 * (ab i 0 * ab j 0)) + (ab i 1 + ab j 1 - 2 * (ab i 1 * ab j 1)) + (ab i 2 + ab j 2 - 2 * (ab i 2 * ab j 2)) + (ab i 3 + ab j 3 - 2 * (ab i 3 * ab j 3)) + (ab i 4 + ab j 4 - 2 * (ab i 4 * ab j 4)) := by decide +kernel
def rowT (m a g : Int) : Int := m * a + g - 2 * (a * g)
theorem gap_row (i : Nat) (hi : i < 6) (ys : List Nat) (hy : ∀ n ∈ ys, n < 6) : (ys.map fun (j : Nat) => (((i : Int) - (j : Int)).natAbs : Int)).sum =
    rowT ys.length (ab i 0) (cnt ys 0) + rowT ys.length (ab i 1) (cnt ys 1) + rowT ys.length (ab i 2) (cnt ys 2) + rowT ys.length (ab i 3) (cnt ys 3) + rowT ys.length (ab i 4) (cnt ys 4) := by
  induction ys with
  | nil => simp [rowT, cnt]
  | cons j r ih =>
    have h1 := ih fun n hn => hy n (.tail _ hn)
    have h2 := gap_one i hi j (hy j (.head _))
    rw [List.map_cons, List.sum_cons, h1, h2]
    simp only [cnt_cons, rowT, List.length_cons, Int.natCast_add, Int.natCast_one, Int.mul_add, Int.add_mul, Int.one_mul]
    omega
def boxT (n m a g : Int) : Int := m * a + n * g - 2 * (a * g)
theorem gap_box (zs ys : List Nat) (hz : ∀ n ∈ zs, n < 6) (hy : ∀ n ∈ ys, n < 6) : gapF zs ys =
    boxT zs.length ys.length (cnt zs 0) (cnt ys 0) + boxT zs.length ys.length (cnt zs 1) (cnt ys 1) + boxT zs.length ys.length (cnt zs 2) (cnt ys 2) + boxT zs.length ys.length (cnt zs 3) (cnt ys 3) + boxT zs.length ys.length (cnt zs 4) (cnt ys 4) := by
  unfold gapF
  induction zs with
  | nil => simp [boxT, cnt]
  | cons i r ih =>
    have h1 := ih fun n hn => hz n (.tail _ hn)
    have h2 := gap_row i (hz i (.head _)) ys hy
    rw [List.map_cons, List.sum_cons, h1, h2]
    simp only [cnt_cons, boxT, rowT, List.length_cons, Int.natCast_add, Int.natCast_one, Int.mul_add, Int.add_mul, Int.one_mul]
    omega
theorem dist_row_eq (i : Nat) (c d : Nat) (ys : List Nat) : (ys.map fun j => levV i c j d).sum = 2 * (ys.map fun (j : Nat) => (((i : Int) - (j : Int)).natAbs : Int)).sum + ys.length * priceC c d := by
  induction ys with
  | nil => simp
  | cons j r ih =>
    rw [List.map_cons, List.sum_cons, ih, List.map_cons, List.sum_cons]
    unfold levV
    simp only [List.length_cons, Int.natCast_add, Int.natCast_one, Int.mul_add, Int.add_mul, Int.one_mul]
    omega
theorem dist_eq (zs ys : List Nat) (c d : Nat) : distF zs ys c d = 2 * gapF zs ys + zs.length * (ys.length * priceC c d) := by
  unfold distF gapF
  induction zs with
  | nil => simp
  | cons j r ih =>
    rw [List.map_cons, List.sum_cons, ih, List.map_cons, List.sum_cons, dist_row_eq]
    simp only [List.length_cons, Int.natCast_add, Int.natCast_one, Int.mul_add, Int.add_mul, Int.one_mul]
    omega
theorem price_self (c : Nat) : priceC c c = 0 := by simp [priceC]
theorem one_k (n m a g : Int) : 2 * n * m * (2 * boxT n m a g) - m * m * (2 * boxT n n a a) - n * n * (2 * boxT m m g g) = 4 * (m * a - n * g) * (m * a - n * g) := by
  unfold boxT
  grind
theorem all_k (n m p D E G x0 x1 x2 x3 x4 y0 y1 y2 y3 y4 z0 z1 z2 z3 z4 s0 s1 s2 s3 s4 : Int)
    (h0 : 2 * n * m * (2 * x0) - m * m * (2 * y0) - n * n * (2 * z0) = s0) (h1 : 2 * n * m * (2 * x1) - m * m * (2 * y1) - n * n * (2 * z1) = s1) (h2 : 2 * n * m * (2 * x2) - m * m * (2 * y2) - n * n * (2 * z2) = s2)
    (h3 : 2 * n * m * (2 * x3) - m * m * (2 * y3) - n * n * (2 * z3) = s3) (h4 : 2 * n * m * (2 * x4) - m * m * (2 * y4) - n * n * (2 * z4) = s4)
    (hD : D = 2 * (x0 + x1 + x2 + x3 + x4) + n * (m * p)) (hE : E = 2 * (y0 + y1 + y2 + y3 + y4)) (hG : G = 2 * (z0 + z1 + z2 + z3 + z4)) :
    2 * n * m * D - m * m * E - n * n * G = 2 * p * n * n * m * m + (s0 + s1 + s2 + s3 + s4) := by
  subst hD hE hG h0 h1 h2 h3 h4
  grind
theorem the_law (zs ys : List Nat) (c : Nat) (n m : Int) (hn : (zs.length : Int) = n) (hm : (ys.length : Int) = m) (hz : ∀ n ∈ zs, n < 6) (hy : ∀ n ∈ ys, n < 6) :
    2 * n * m * distF zs ys 120 c - m * m * distF zs zs 120 120 - n * n * distF ys ys c c =
      2 * priceC 120 c * n * n * m * m + (4 * (m * cnt zs 0 - n * cnt ys 0) * (m * cnt zs 0 - n * cnt ys 0) + 4 * (m * cnt zs 1 - n * cnt ys 1) * (m * cnt zs 1 - n * cnt ys 1) + 4 * (m * cnt zs 2 - n * cnt ys 2) * (m * cnt zs 2 - n * cnt ys 2) + 4 * (m * cnt zs 3 - n * cnt ys 3) * (m * cnt zs 3 - n * cnt ys 3) + 4 * (m * cnt zs 4 - n * cnt ys 4) * (m * cnt zs 4 - n * cnt ys 4)) := by
  refine all_k n m (priceC 120 c) _ _ _ _ _ _ _ _ _ _ _ _ _ _ _ _ _ _ _ _ _ _ _ (one_k n m _ _) (one_k n m _ _) (one_k n m _ _) (one_k n m _ _) (one_k n m _ _) ?_ ?_ ?_
  · rw [dist_eq, gap_box zs ys hz hy, hn, hm]
  · rw [dist_eq, gap_box zs zs hz hz, hn, price_self]; simp
  · rw [dist_eq, gap_box ys ys hy hy, hm, price_self]; simp
def stp (S : List Nat) (f : Int) (k : Nat) : Int := (7 - (2 + f)) * cnt (S.take (2 + f).toNat) k - (2 + f) * cnt (S.drop (2 + f).toNat) k
def dueAt (S : List Nat) (p f : Int) (i : Nat) : Int := 2 * p * (2 + f) * (2 + f) * (7 - (2 + f)) * (7 - (2 + f)) + ((List.range i).map fun k => 4 * stp S f k * stp S f k).sum
theorem dueAt_zero (S : List Nat) (p f : Int) : 2 * p * (2 + f) * (2 + f) * (7 - (2 + f)) * (7 - (2 + f)) = dueAt S p f 0 := by simp [dueAt]
theorem dueAt_succ (S : List Nat) (p f : Int) (i : Nat) : dueAt S p f (i + 1) = dueAt S p f i + 4 * stp S f i * stp S f i := by
  unfold dueAt
  rw [List.range_succ, List.map_append, List.sum_append]
  simp only [List.map_cons, List.map_nil, List.sum_cons, List.sum_nil]
  omega
theorem law_due (S : List Nat) (h7 : S.length = 7) (h6 : ∀ n ∈ S, n < 6) (p f : Int) (h0 : 0 ≤ f) (h4 : f < 4) (c : Nat) (hp : p = priceC 120 c) :
    2 * (2 + f) * (7 - (2 + f)) * distF (S.take (2 + f).toNat) (S.drop (2 + f).toNat) 120 c - (7 - (2 + f)) * (7 - (2 + f)) * distF (S.take (2 + f).toNat) (S.take (2 + f).toNat) 120 120
      - (2 + f) * (2 + f) * distF (S.drop (2 + f).toNat) (S.drop (2 + f).toNat) c c = dueAt S p f 5 := by
  rw [the_law (S.take (2 + f).toNat) (S.drop (2 + f).toNat) c (2 + f) (7 - (2 + f)) (by rw [List.length_take]; omega) (by rw [List.length_drop]; omega) (fun n hn => h6 n (List.mem_of_mem_take hn)) (fun n hn => h6 n (List.mem_of_mem_drop hn)), hp]
  unfold dueAt
  have e : ((List.range 5).map fun k => 4 * stp S f k * stp S f k).sum = 4 * stp S f 0 * stp S f 0 + 4 * stp S f 1 * stp S f 1 + 4 * stp S f 2 * stp S f 2 + 4 * stp S f 3 * stp S f 3 + 4 * stp S f 4 * stp S f 4 := by
    show (4 * stp S f 0 * stp S f 0 + (4 * stp S f 1 * stp S f 1 + (4 * stp S f 2 * stp S f 2 + (4 * stp S f 3 * stp S f 3 + (4 * stp S f 4 * stp S f 4 + 0))))) = _
    omega
  rw [e]
  rfl
theorem news_add {h₀ h h' : Heap} {L a : Addr} {m : Str → Option Value} {news : List (Addr × Obj)} {o : Obj} (F : Fr h₀ L h m) (N' : News h₀ L h' news) (hn : h.get? a = none) (hg : h'.get? a = some o) : News h₀ L h' ((a, o) :: news) := by
  intro p hp
  rcases List.mem_cons.mp hp with rfl | hp
  · refine ⟨hg, fun e => ?_, ?_⟩
    · obtain ⟨oL, _, _, hL, _⟩ := F.ns
      have e' : a = L := e
      rw [e', hL] at hn
      cases hn
    · cases q : h₀.get? a with
      | none => rfl
      | some o' => rw [F.keep a o' q] at hn; cases hn
  · exact N' p hp
local macro_rules | `(tactic| walk_at "m_room") => `(tactic| first | (dsimp only [Around.deeper, Around.in1]; omega) | (simp only [depth_deeper, depth_caller]; decide) | (simp only [units_in1, units_deeper, units_caller, cLine_is]; omega))
theorem small_six (xs : List Int) : ∃ S : List Nat, xs.map (fun k' => k'.fmod 6) = S.map Int.ofNat ∧ S.length = xs.length ∧ ∀ n ∈ S, n < 6 := by
  refine ⟨xs.map fun x => (x.fmod 6).toNat, ?_, by simp, ?_⟩
  · rw [List.map_map]
    refine List.map_congr_left fun x _ => ?_
    have h1 : 0 ≤ x.fmod 6 := Int.fmod_nonneg_of_pos x (by decide)
    show x.fmod 6 = ((x.fmod 6).toNat : Int)
    omega
  · intro n hn
    obtain ⟨x, _, rfl⟩ := List.mem_map.mp hn
    have h1 : 0 ≤ x.fmod 6 := Int.fmod_nonneg_of_pos x (by decide)
    have h2 : x.fmod 6 < 6 := Int.fmod_lt_of_pos x (by decide)
    omega
theorem a_mark (y : Int) : ∃ c ∈ marks, Txt.item (Str.ofString "| (-") (y.fmod 4) = ⟨#[c]⟩ := by
  have h1 : 0 ≤ y.fmod 4 := Int.fmod_nonneg_of_pos y (by decide)
  have h2 : y.fmod 4 < 4 := Int.fmod_lt_of_pos y (by decide)
  have h3 : y.fmod 4 = 0 ∨ y.fmod 4 = 1 ∨ y.fmod 4 = 2 ∨ y.fmod 4 = 3 := by omega
  rcases h3 with e | e | e | e <;> rw [e]
  · exact ⟨124, by decide, by decide⟩
  · exact ⟨32, by decide, by decide⟩
  · exact ⟨40, by decide, by decide⟩
  · exact ⟨45, by decide, by decide⟩
theorem an_ink (y : Int) : ∃ c ∈ inks, Txt.item (Str.ofString "xXy") (y.fmod 3) = ⟨#[c]⟩ ∧ y.fmod 3 = priceC 120 c := by
  have h1 : 0 ≤ y.fmod 3 := Int.fmod_nonneg_of_pos y (by decide)
  have h2 : y.fmod 3 < 3 := Int.fmod_lt_of_pos y (by decide)
  have h3 : y.fmod 3 = 0 ∨ y.fmod 3 = 1 ∨ y.fmod 3 = 2 := by omega
  rcases h3 with e | e | e <;> rw [e]
  · exact ⟨120, by decide, by decide, by decide⟩
  · exact ⟨88, by decide, by decide, by decide⟩
  · exact ⟨121, by decide, by decide, by decide⟩
def SzL (vs : List Value) (zs : List Nat) : Prop := IntsAre vs (zs.map Int.ofNat) ∧ zs.length ≤ 7 ∧ ∀ n ∈ zs, n < 6
theorem SzL.take {vs : List Value} {zs : List Nat} (h : SzL vs zs) (k : Nat) : SzL (vs.take k) (zs.take k) :=
  ⟨by rw [List.map_take]; exact h.1.take _, by rw [List.length_take]; have := h.2.1; omega, fun n hn => h.2.2 n (List.mem_of_mem_take hn)⟩
theorem SzL.drop {vs : List Value} {zs : List Nat} (h : SzL vs zs) (k : Nat) : SzL (vs.drop k) (zs.drop k) :=
  ⟨by rw [List.map_drop]; exact h.1.drop _, by rw [List.length_drop]; have := h.2.1; omega, fun n hn => h.2.2 n (List.mem_of_mem_drop hn)⟩
theorem counts_S (w : World) (zs : List Nat) (la : Addr) :
    Con w 131 3 [.ref la] (fun h => ∃ vs, h.IsList la vs.toArray ∧ SzL vs zs) (fun h r h' => ∃ a vs n, r = .ref a ∧ h.get? a = none ∧ h'.get? a = some (W.listOf vs.toArray n) ∧ IntsAre vs (counts zs)) := by
  intro mean mg mb A st Q E hA0 hA1 hA2 X T hp hret
  obtain ⟨vs, h1, h2⟩ := hp
  exact counts_con w zs la (by have := h2.2.1; omega) mean mg mb A st Q E hA0 hA1 hA2 X T ⟨vs, h1, h2.1⟩ hret
def AMark (M : Str) : Prop := ∃ c ∈ marks, M = ⟨#[c]⟩
theorem ports_S (w : World) (zs : List Nat) (la : Addr) (M : Str) (ti : Tok) (hM : AMark M) :
    Con w 138 3 [.ref la, .str M ti] (fun h => ∃ vs, h.IsList la vs.toArray ∧ SzL vs zs) (fun h r h' => ∃ a vs n, r = .ref a ∧ h.get? a = none ∧ h'.get? a = some (W.listOf vs.toArray n) ∧ IntsAre vs (counts zs)) := by
  obtain ⟨c, hc, rfl⟩ := hM
  intro mean mg mb A st Q E hA0 hA1 hA2 X T hp hret
  obtain ⟨vs, h1, h2⟩ := hp
  exact ports_con w c zs la ti hc h2.2.2 (by have := h2.2.1; omega) mean mg mb A st Q E hA0 hA1 hA2 X T ⟨vs, h1, h2.1⟩ hret
section
variable {prog : Program} {w : World} {A : Around} {E : Value → Shared → Prop} {s : Shared} {h₀ : Heap} {L l : Addr} {m : Str → Option Value} {news : List (Addr × Obj)} {value slice : PySem.Expr} {vs : List Value} {zs : List Nat} {vl vu : Value} {x y : Int} {tx : Tok} {Q : Value → Shared → Prop}
theorem law_upto (F : Fr h₀ L s.heap m) (N : News h₀ L s.heap news) (hm : s.heap.IsList l vs.toArray) (hz : SzL vs zs) (hy : 0 ≤ y)
    (h : ∀ D ws h', Fr h₀ L h' m → News h₀ L h' ((D, W.listOf (List.toArray ws) 0) :: news) → SzL ws (zs.take y.toNat) → Q (.ref D) { s with heap := h' })
    (hs : subscripted slice false (.ref l) (.ref s.heap.objs.size) = operate [.ref s.heap.objs.size, .ref l] (getItem (.ref l) (.ref s.heap.objs.size))) (ht : ∀ r, letTemporaryGo value (.ref l) r = pure ()) :
    wpAny (model prog w) A (subscriptTail value slice (.ref l) (.ref s.heap.objs.size)) Q E { s with heap := s.heap.push { cls := .type "slice", data := .fields #[.none, .int y tx, .none] } } := by
  have hl : vs.length = zs.length := by rw [hz.1.length, List.length_map]
  have h7 := hz.2.1
  refine kmk_slice_ints F N hm .none (.int _ _) hz.1 (kmk_upto hz.1 hy) rfl (fun D ws h' F' N' _ hi _ _ => h D ws h' F' N' ⟨?_, ?_, fun n hn => hz.2.2 n (List.mem_of_mem_take hn)⟩) hs ht (by rw [List.size_toArray, sizeLine_eq]; omega)
  · rw [List.map_take]; exact hi
  · rw [List.length_take]; omega
theorem law_from (F : Fr h₀ L s.heap m) (N : News h₀ L s.heap news) (hm : s.heap.IsList l vs.toArray) (hz : SzL vs zs) (hy : 0 ≤ y)
    (h : ∀ D ws h', Fr h₀ L h' m → News h₀ L h' ((D, W.listOf (List.toArray ws) 0) :: news) → SzL ws (zs.drop y.toNat) → Q (.ref D) { s with heap := h' })
    (hs : subscripted slice false (.ref l) (.ref s.heap.objs.size) = operate [.ref s.heap.objs.size, .ref l] (getItem (.ref l) (.ref s.heap.objs.size))) (ht : ∀ r, letTemporaryGo value (.ref l) r = pure ()) :
    wpAny (model prog w) A (subscriptTail value slice (.ref l) (.ref s.heap.objs.size)) Q E { s with heap := s.heap.push { cls := .type "slice", data := .fields #[.int y tx, .none, .none] } } := by
  have hl : vs.length = zs.length := by rw [hz.1.length, List.length_map]
  have h7 := hz.2.1
  refine kmk_slice_ints F N hm (.int _ _) .none hz.1 (kmk_from hz.1 hy) rfl (fun D ws h' F' N' _ hi _ _ => h D ws h' F' N' ⟨?_, ?_, fun n hn => hz.2.2 n (List.mem_of_mem_drop hn)⟩) hs ht (by rw [List.size_toArray, sizeLine_eq]; omega)
  · rw [List.map_drop]; exact hi
  · rw [List.length_drop]; omega
end

section
variable {prog : Program} {w : World} {A : Around} {h₀ : Heap} {L : Addr} {m : Str → Option Value} {env : Env} {elt : Expr} {x : Str} {scope : Scope} {cl : List (Str × Addr)} {s : Shared} {S : List (Addr × Obj) → Prop} {Fin : List Value → List (Addr × Obj) → Prop} {news : List (Addr × Obj)}
theorem sz_at {vs : List Value} {zs : List Nat} (h : SzL vs zs) {i : Nat} {v : Value} (hv : vs[i]? = some v) : ∃ (n : Nat) (t : Tok), zs[i]? = some n ∧ v = Value.int (n : Int) t := ints_at h.1 hv
theorem kct_list {vs : List Value} {zs : List Nat} (mk : Nat → Str) (hS : S news) (hz : SzL vs zs)
    (turn : ∀ (n : Nat) t I oI C oC D m₂ ys h tk, n < 6 → LCg.NsObj oC m₂ → m₂ x = some (.int (n : Int) t) → Fr h₀ L h m → News h₀ L h ((I, oI) :: (C, oC) :: (D, LCg.lst ys) :: news) → LCg.Off3 I C D news →
      wpAny (model prog w) A (eval elt (compEnvC scope cl C env)) (Cut h₀ L (fun _ => m) ((I, oI) :: (C, oC) :: (D, LCg.lst ys) :: news) { s with heap := h, toks := tk } (fun y => ∃ t, y = .str (mk n) t)) (fun _ _ => False) { s with heap := h, toks := tk })
    (fin : ∀ ys, TextsAre mk ys zs → Fin ys news) : LCg.CompRest prog w A h₀ L m env elt x scope cl s S (fun i v => vs.toArray[i]? = some v) Fin vs.toArray.size 0 [] news := by
  have hl : vs.length = zs.length := by rw [hz.1.length, List.length_map]
  have key : ∀ (j i : Nat) (ys : List Value), i + j = vs.length → TextsAre mk ys (zs.take i) → LCg.CompRest prog w A h₀ L m env elt x scope cl s S (fun i v => vs.toArray[i]? = some v) Fin j i ys news := by
    intro j
    induction j with
    | zero =>
      intro i ys hi hy
      have e : zs.take i = zs := List.take_of_length_le (by omega)
      rw [e] at hy
      exact LCg.CompRest.zero (fin ys hy)
    | succ j ih =>
      intro i ys hi hy
      refine LCg.CompRest.succ ?_
      intro v I oI C oC D m₂ h tk E' hv hC hx F N off ne
      obtain ⟨n, t, hn, hv'⟩ := sz_at hz (by simpa using hv : vs[i]? = some v)
      rw [hv'] at hx
      refine wpAny_mono (turn n t I oI C oC D m₂ ys h tk (hz.2.2 n (List.mem_of_getElem? hn)) hC hx F N off) (fun y s₂ hq => ?_) fun _ _ e => e.elim
      obtain ⟨h', tk', e, F', N', t', hy'⟩ := hq.all
      refine ⟨h', tk', news, e, F', N', off, hS, ?_⟩
      rw [hy']
      refine ih (i + 1) _ (by omega) ?_
      rw [List.take_add_one, hn]
      have hyl : ys.length = i := by rw [hy.1, List.length_take]; omega
      refine ⟨by simp [hy.1], fun q k hq => ?_⟩
      rcases Nat.lt_or_ge q i with h1 | h1
      · rw [List.getElem?_append_left (by rw [List.length_take]; omega)] at hq
        obtain ⟨t2, e2⟩ := hy.2 q k hq
        exact ⟨t2, by rw [List.getElem?_append_left (by omega)]; exact e2⟩
      · rw [List.getElem?_append_right (by rw [List.length_take]; omega), List.length_take, show q - min i zs.length = q - i by omega] at hq
        have hq0 : q - i = 0 := by
          rcases Nat.eq_zero_or_pos (q - i) with h2 | h2
          · exact h2
          · rw [List.getElem?_eq_none (by show 1 ≤ q - i; omega)] at hq; cases hq
        rw [hq0] at hq
        have ek : n = k := by simpa using hq
        subst ek
        exact ⟨t', by rw [List.getElem?_append_right (by omega), show q - ys.length = 0 by omega]; rfl⟩
  rw [List.size_toArray]
  exact key vs.length 0 [] (by omega) ⟨by simp, fun i n h => by simp at h⟩
end
def TxL (mk : Nat → Str) (vs : List Value) (zs : List Nat) : Prop := TextsAre mk vs zs ∧ zs.length ≤ 7 ∧ ∀ n ∈ zs, n < 6
theorem ahead_made : ∀ c ∈ inks, ∀ n < 6, Txt.mul (Str.ofString " ") ((n : Nat) : Int) ++ (⟨#[c]⟩ : Str) = sp n c := by decide +kernel
theorem behind_made : ∀ c ∈ inks, ∀ n < 6, (⟨#[c]⟩ : Str) ++ Txt.mul (Str.ofString " ") ((n : Nat) : Int) = pd 0 c n := by decide +kernel
theorem lines_S (w : World) (b : Bool) (c : Nat) (M : Str) (zs : List Nat) (la : Addr) (ti : Tok) (hc : c ∈ inks) (hM : M = ⟨#[c]⟩) :
    Con w 145 3 [.ref la, .str M ti] (fun h => ∃ vs, h.IsList la vs.toArray ∧ TxL (ln b c) vs zs) (fun h r h' => ∃ a vs n, r = .ref a ∧ h.get? a = none ∧ h'.get? a = some (W.listOf vs.toArray n) ∧ IntsAre vs (counts zs)) := by
  subst hM
  intro mean mg mb A st Q E hA0 hA1 hA2 X T hp hret
  obtain ⟨vs, h1, h2⟩ := hp
  exact lines_con w b c zs la ti hc h2.2.2 (by have := h2.2.1; omega) mean mg mb A st Q E hA0 hA1 hA2 X T ⟨vs, h1, h2.1⟩ hret
theorem ln_ahead (c : Nat) : ln true c = fun n => sp n c := by
  funext n
  show pd n c 0 = sp n c
  simp [pd, sp]
theorem ln_behind (c : Nat) : ln false c = fun n => pd 0 c n := rfl
theorem lev_bound (i j c d : Nat) (hi : i < 6) (hj : j < 6) : 0 ≤ levV i c j d ∧ levV i c j d ≤ 12 := by
  have hp : 0 ≤ priceC c d ∧ priceC c d ≤ 2 := by unfold priceC; (repeat' split) <;> omega
  unfold levV
  omega
theorem dist_row (i : Nat) (hi : i < 6) (c d : Nat) (ys : List Nat) (hy : ∀ n ∈ ys, n < 6) : 0 ≤ (ys.map fun j => levV i c j d).sum ∧ (ys.map fun j => levV i c j d).sum ≤ 12 * ys.length := by
  induction ys with
  | nil => simp
  | cons j r ih =>
    have h1 := ih fun n hn => hy n (.tail _ hn)
    have h2 := lev_bound i j c d hi (hy j (.head _))
    rw [List.map_cons, List.sum_cons, List.length_cons]
    omega
theorem dist_bound (zs ys : List Nat) (c d : Nat) (hz : ∀ n ∈ zs, n < 6) (hy : ∀ n ∈ ys, n < 6) (h7 : ys.length ≤ 7) : 0 ≤ distF zs ys c d ∧ distF zs ys c d ≤ 84 * zs.length := by
  unfold distF
  induction zs with
  | nil => simp
  | cons j r ih =>
    have h1 := ih fun n hn => hz n (.tail _ hn)
    have h2 := dist_row j (hz j (.head _)) c d ys hy
    rw [List.map_cons, List.sum_cons, List.length_cons]
    omega
theorem dist_S (w : World) (ca cb : Nat) (zs ys : List Nat) (la lb : Addr) (bd : Int) (ti : Tok) (hca : ca ∈ inks) (hcb : cb ∈ inks) (hbd : 12 ≤ bd ∧ bd ≤ 16) :
    Con w 152 5 [.ref la, .ref lb, .int bd ti] (fun h => (∃ vs, h.IsList la vs.toArray ∧ TxL (ln true ca) vs zs) ∧ ∃ us, h.IsList lb us.toArray ∧ TxL (ln true cb) us ys) (fun _ r _ => ∃ t, r = .int (distF zs ys ca cb) t ∧ 0 ≤ distF zs ys ca cb ∧ distF zs ys ca cb ≤ 1000) := by
  intro mean mg mb A st Q E hA0 hA1 hA2 X T hp hret
  obtain ⟨⟨vs, h1, h2⟩, us, h3, h4⟩ := hp
  rw [ln_ahead] at h2 h4
  have hb := dist_bound zs ys ca cb h2.2.2 h4.2.2 h4.2.1
  have h7 := h2.2.1
  exact dist_con w ca cb zs ys la lb bd ti hca hcb h2.2.2 h4.2.2 hbd mean mg mb A st Q E hA0 hA1 hA2 X T ⟨⟨vs, h1, h2.1⟩, us, h3, h4.1⟩ fun r h' tk' hk ⟨t, e⟩ => hret r h' tk' hk ⟨t, e, hb.1, by omega⟩
theorem ks_asm {P : Prop} (h : P) : P := h
local macro_rules | `(tactic| walk_at "binaryOp Mult str int") => `(tactic| k_dflt (refine KXi.mul (n := 1) (by rfl) (by decide) (by omega) (by omega) ?_; intro _ _ kxiZ kxiN))
local macro_rules | `(tactic| walk_at "m_calls") => `(tactic| ((with_reducible show wpAny _ _ (call (Value.ref 152) _) _ _ _); (with_reducible rename Fr _ _ _ _ => Fc); (with_reducible rename News _ _ _ _ => Nc); (refine' use_con (dist_S _ ?ca ?cb ?zs ?ys _ _ _ _ ?hca ?hcb ?hbd) (by k_asm) (by k_asm) Fc Nc rfl (by walk_at "m_room") (by walk_at "m_room") ?pre ?kk); (case pre => exact ⟨⟨_, (by kmk_list), by assumption⟩, _, (by kmk_list), by assumption⟩); (case hca => first | assumption | decide); (case hcb => first | assumption | decide); (case hbd => assumption); rintro r h' tk' F' N' - ⟨t', e', hd0', hd1'⟩; subst e'; (try dsimp only at F'); k_sweep))
theorem fit_one (f : Int) (h0 : 0 ≤ f) (h4 : f < 4) : (0 ≤ 2 * (2 + f) * (7 - (2 + f)) ∧ 2 * (2 + f) * (7 - (2 + f)) ≤ 1000) ∧ (0 ≤ (7 - (2 + f)) * (7 - (2 + f)) ∧ (7 - (2 + f)) * (7 - (2 + f)) ≤ 1000) ∧ (0 ≤ (2 + f) * (2 + f) ∧ (2 + f) * (2 + f) ≤ 1000) := by
  have h : f = 0 ∨ f = 1 ∨ f = 2 ∨ f = 3 := by omega
  rcases h with rfl | rfl | rfl | rfl <;> decide
theorem cnt_seven (zs : List Nat) (k : Nat) (h : zs.length ≤ 7) : 0 ≤ cnt zs k ∧ cnt zs k ≤ 7 := by
  have h1 := List.length_filter_le (fun n => decide (k < n)) zs
  unfold cnt
  omega
theorem stp_bound (S : List Nat) (f : Int) (k : Nat) (h7 : S.length = 7) (h0 : 0 ≤ f) (h4 : f < 4) : -1000 ≤ stp S f k ∧ stp S f k ≤ 1000 := by
  have h1 := cnt_seven (S.take (2 + f).toNat) k (by rw [List.length_take]; omega)
  have h2 := cnt_seven (S.drop (2 + f).toNat) k (by rw [List.length_drop]; omega)
  unfold stp
  have h : f = 0 ∨ f = 1 ∨ f = 2 ∨ f = 3 := by omega
  rcases h with rfl | rfl | rfl | rfl <;> omega
theorem stp_fits (S : List Nat) (f : Int) (k : Nat) (h7 : S.length = 7) (h0 : 0 ≤ f) (h4 : f < 4) :
    IntMulOk (4 * ((7 - (2 + f)) * cnt (S.take (2 + f).toNat) k - (2 + f) * cnt (S.drop (2 + f).toNat) k)) ((7 - (2 + f)) * cnt (S.take (2 + f).toNat) k - (2 + f) * cnt (S.drop (2 + f).toNat) k) := by
  have h := stp_bound S f k h7 h0 h4
  unfold stp at h
  exact IntMulOk.of_right (intBits_le_64 (by omega) (by omega))
theorem law_item {prog : Program} {w : World} {A : Around} {E : Value → Shared → Prop} {s : Shared} {value slice : PySem.Expr} {l : Addr} {vs : List Value} {zs : List Nat} {k : Nat} {u : Tok} {Q : Value → Shared → Prop}
    (hl : s.heap.IsList l vs.toArray) (hi : IntsAre vs (counts zs)) (hk : k < 5) (h : ∀ t, Q (.int (cnt zs k) t) s)
    (hs : subscripted slice false (.ref l) (.int k u) = operate [.ref l, .int k u] (getItem (.ref l) (.int k u))) :
    wpAny (model prog w) A (subscriptTail value slice (.ref l) (.int k u)) Q E s := by
  have hlen : vs.length = 5 := by rw [hi.length]; simp [counts]
  have hx : vs[k]? = some (vs[k]'(by omega)) := List.getElem?_eq_getElem _
  obtain ⟨n, t, e, hn⟩ := hi.at k _ hx
  have hn' : n = cnt zs k := by
    have : (counts zs)[k]? = some (cnt zs k) := by simp [counts, hk]
    rw [this] at hn
    exact (Option.some.inj hn).symm
  subst hn'
  exact tail_any hl.typeIs slot_list_getitem.lookup (wpAny_getItem_list hl (by omega) (by omega) (by rw [Int.toNat_natCast]; simpa [e] using hx) (h t)) hs
theorem law_walk : PySem.Challenge.rw_wu0037_01.Holds := hd (by
  w_top off
  w_strict (
    k_go0
    (all_goals try k_fold)
    refine wpAny_mono (E := fun _ _ => False) ?_ (fun _ _ h => h) (fun _ _ h => h.elim)
    (try k_fold)
    (repeat' (first | (k_unfold; (try dsimp only)) | ((first | (((with_reducible show wpAny _ _ (subscriptTail (Expr.Name _ _) (Expr.Name _ _) (Value.ref _) (Value.int _ _)) _ _ _); (refine law_item (by kmk_list) (by assumption) (by assumption) ?_ (by with_unfolding_all rfl)); intro qt')) | (((with_reducible show wpAny _ _ (call (Value.ref 121) _) _ _ _); (with_reducible rename Fr _ _ _ _ => qFc); (with_reducible rename News _ _ _ _ => qNc); (refine use_con (isub_con _ _ _ _ _) (by k_asm) (by k_asm) qFc qNc rfl (by walk_at "m_room") (by walk_at "m_room") trivial ?_); rintro qr qh' qtk' qF' qN' - ⟨qt', qe'⟩; subst qe'; (try dsimp only at qF'); k_sweep)) | (((with_reducible show wpAny _ _ (call (Value.ref 114) _) _ _ _); (with_reducible rename Fr _ _ _ _ => qFc); (with_reducible rename News _ _ _ _ => qNc); (refine use_con (imul_con _ _ _ _ _ (by assumption) ⟨by assumption, by omega⟩) (by k_asm) (by k_asm) qFc qNc rfl (by walk_at "m_room") (by walk_at "m_room") trivial ?_); rintro qr qh' qtk' qF' qN' - ⟨qt', qe'⟩; subst qe'; (try dsimp only at qF'); k_sweep)) | (((with_reducible show wpAny _ _ (call (Value.ref 145) _) _ _ _); (with_reducible rename Fr _ _ _ _ => qFc); (with_reducible rename News _ _ _ _ => qNc); (first | (refine use_con (lines_S _ true 120 _ _ _ _ (by decide) (by decide)) (by k_asm) (by k_asm) qFc qNc rfl (by walk_at "m_room") (by walk_at "m_room") ⟨_, (by kmk_list), by assumption⟩ ?_) | (refine use_con (lines_S _ false _ _ _ _ _ (by assumption) (by assumption)) (by k_asm) (by k_asm) qFc qNc rfl (by walk_at "m_room") (by walk_at "m_room") ⟨_, (by kmk_list), by assumption⟩ ?_)); rintro qr qh' qtk' qF' qN' - ⟨qa', qvs', qn', qe', qhn', qhg', qhi'⟩; subst qe'; (have qNa' := news_add qFc qN' qhn' qhg'); (try dsimp only at qF'); k_sweep; clear qN')) | (((with_reducible show wpAny _ _ (call (Value.ref 138) _) _ _ _); (with_reducible rename Fr _ _ _ _ => qFc); (with_reducible rename News _ _ _ _ => qNc); (refine use_con (ports_S _ _ _ _ _ (by assumption)) (by k_asm) (by k_asm) qFc qNc rfl (by walk_at "m_room") (by walk_at "m_room") ⟨_, News.isList qNc (.head _), by assumption⟩ ?_); rintro qr qh' qtk' qF' qN' - ⟨qa', qvs', qn', qe', qhn', qhg', qhi'⟩; subst qe'; (have qNa' := news_add qFc qN' qhn' qhg'); (try dsimp only at qF'); k_sweep; clear qN')) | (((with_reducible show wpAny _ _ (call (Value.ref 131) _) _ _ _); (with_reducible rename Fr _ _ _ _ => qFc); (with_reducible rename News _ _ _ _ => qNc); (refine use_con (counts_S _ _ _) (by k_asm) (by k_asm) qFc qNc rfl (by walk_at "m_room") (by walk_at "m_room") ⟨_, News.isList qNc (.head _), by assumption⟩ ?_); rintro qr qh' qtk' qF' qN' - ⟨qa', qvs', qn', qe', qhn', qhg', qhi'⟩; subst qe'; (have qNa' := news_add qFc qN' qhn' qhg'); (try dsimp only at qF'); k_sweep; clear qN')) | (((with_reducible show wpAny _ _ (subscriptTail _ (Expr.Slice _ _ none _) (Value.ref _) (Value.ref _)) _ _ _); (with_reducible rename Fr _ _ _ _ => qFc); (with_reducible rename News _ _ _ _ => qNc); (rename 0 ≤ 2 + _ => qhc); (first | (refine law_upto qFc qNc (by kmk_list) (by assumption) qhc ?_ (by with_unfolding_all rfl) (by kmk_pure)) | (refine law_from qFc qNc (by kmk_list) (by assumption) qhc ?_ (by with_unfolding_all rfl) (by kmk_pure))); intro qD' qws' qh' qF' qN' qhz'; (try dsimp only at qF'); k_sweep)) | walk_at "m_calls")) | (((walk_at "m_guard"; fail_if_success (with_reducible show wpAny _ _ (subscriptTail _ (Expr.Slice _ _ none _) (Value.ref _) (Value.ref _)) _ _ _))); walk1) | (dsimp only; ((walk_at "m_guard"; fail_if_success (with_reducible show wpAny _ _ (subscriptTail _ (Expr.Slice _ _ none _) (Value.ref _) (Value.ref _)) _ _ _))); walk1)))
    rename Fr _ _ _ _ => F1
    rename News _ _ _ _ => N1
    rename ReadsAll _ _ _ _ => rA
    rename IntsAre _ _ => hI
    rename Heap.IsList _ _ _ => hL
    rename ¬ _ < _ => hlen
    refine use_con (sums_con _ _ _ (by omega)) (by k_asm) (by k_asm) F1 N1 rfl (by walk_at "m_room") (by walk_at "m_room") ⟨_, Heap.IsList.at hL (fun o e => F1.keep _ o e), hI⟩ ?_
    rintro r h' tk' F N - ⟨a1, vs1, n1, xs, rfl, hn1, hg1, hi1, hl1, hb1⟩
    have N1' := news_add F1 N hn1 hg1
    k_sweep
    clear N
    obtain ⟨S, hS, hS7, hS6⟩ := small_six xs
    rw [hl1] at hS7
    have hT0 : 0 ≤ xs.sum.fmod 4 := Int.fmod_nonneg_of_pos _ (by decide)
    have hT4 : xs.sum.fmod 4 < 4 := Int.fmod_lt_of_pos _ (by decide)
    have hT2 : 0 ≤ 2 + xs.sum.fmod 4 := by omega
    have hMk : AMark _ := a_mark (xs.sum.fdiv 4)
    (repeat' (first | (k_unfold; (try dsimp only)) | ((first | (((with_reducible show wpAny _ _ (subscriptTail (Expr.Name _ _) (Expr.Name _ _) (Value.ref _) (Value.int _ _)) _ _ _); (refine law_item (by kmk_list) (by assumption) (by assumption) ?_ (by with_unfolding_all rfl)); intro qt')) | (((with_reducible show wpAny _ _ (call (Value.ref 121) _) _ _ _); (with_reducible rename Fr _ _ _ _ => qFc); (with_reducible rename News _ _ _ _ => qNc); (refine use_con (isub_con _ _ _ _ _) (by k_asm) (by k_asm) qFc qNc rfl (by walk_at "m_room") (by walk_at "m_room") trivial ?_); rintro qr qh' qtk' qF' qN' - ⟨qt', qe'⟩; subst qe'; (try dsimp only at qF'); k_sweep)) | (((with_reducible show wpAny _ _ (call (Value.ref 114) _) _ _ _); (with_reducible rename Fr _ _ _ _ => qFc); (with_reducible rename News _ _ _ _ => qNc); (refine use_con (imul_con _ _ _ _ _ (by assumption) ⟨by assumption, by omega⟩) (by k_asm) (by k_asm) qFc qNc rfl (by walk_at "m_room") (by walk_at "m_room") trivial ?_); rintro qr qh' qtk' qF' qN' - ⟨qt', qe'⟩; subst qe'; (try dsimp only at qF'); k_sweep)) | (((with_reducible show wpAny _ _ (call (Value.ref 145) _) _ _ _); (with_reducible rename Fr _ _ _ _ => qFc); (with_reducible rename News _ _ _ _ => qNc); (first | (refine use_con (lines_S _ true 120 _ _ _ _ (by decide) (by decide)) (by k_asm) (by k_asm) qFc qNc rfl (by walk_at "m_room") (by walk_at "m_room") ⟨_, (by kmk_list), by assumption⟩ ?_) | (refine use_con (lines_S _ false _ _ _ _ _ (by assumption) (by assumption)) (by k_asm) (by k_asm) qFc qNc rfl (by walk_at "m_room") (by walk_at "m_room") ⟨_, (by kmk_list), by assumption⟩ ?_)); rintro qr qh' qtk' qF' qN' - ⟨qa', qvs', qn', qe', qhn', qhg', qhi'⟩; subst qe'; (have qNa' := news_add qFc qN' qhn' qhg'); (try dsimp only at qF'); k_sweep; clear qN')) | (((with_reducible show wpAny _ _ (call (Value.ref 138) _) _ _ _); (with_reducible rename Fr _ _ _ _ => qFc); (with_reducible rename News _ _ _ _ => qNc); (refine use_con (ports_S _ _ _ _ _ (by assumption)) (by k_asm) (by k_asm) qFc qNc rfl (by walk_at "m_room") (by walk_at "m_room") ⟨_, News.isList qNc (.head _), by assumption⟩ ?_); rintro qr qh' qtk' qF' qN' - ⟨qa', qvs', qn', qe', qhn', qhg', qhi'⟩; subst qe'; (have qNa' := news_add qFc qN' qhn' qhg'); (try dsimp only at qF'); k_sweep; clear qN')) | (((with_reducible show wpAny _ _ (call (Value.ref 131) _) _ _ _); (with_reducible rename Fr _ _ _ _ => qFc); (with_reducible rename News _ _ _ _ => qNc); (refine use_con (counts_S _ _ _) (by k_asm) (by k_asm) qFc qNc rfl (by walk_at "m_room") (by walk_at "m_room") ⟨_, News.isList qNc (.head _), by assumption⟩ ?_); rintro qr qh' qtk' qF' qN' - ⟨qa', qvs', qn', qe', qhn', qhg', qhi'⟩; subst qe'; (have qNa' := news_add qFc qN' qhn' qhg'); (try dsimp only at qF'); k_sweep; clear qN')) | (((with_reducible show wpAny _ _ (subscriptTail _ (Expr.Slice _ _ none _) (Value.ref _) (Value.ref _)) _ _ _); (with_reducible rename Fr _ _ _ _ => qFc); (with_reducible rename News _ _ _ _ => qNc); (rename 0 ≤ 2 + _ => qhc); (first | (refine law_upto qFc qNc (by kmk_list) (by assumption) qhc ?_ (by with_unfolding_all rfl) (by kmk_pure)) | (refine law_from qFc qNc (by kmk_list) (by assumption) qhc ?_ (by with_unfolding_all rfl) (by kmk_pure))); intro qD' qws' qh' qF' qN' qhz'; (try dsimp only at qF'); k_sweep)) | walk_at "m_calls")) | (((walk_at "m_guard"; fail_if_success (with_reducible show wpAny _ _ (subscriptTail _ (Expr.Slice _ _ none _) (Value.ref _) (Value.ref _)) _ _ _))); walk1) | (dsimp only; ((walk_at "m_guard"; fail_if_success (with_reducible show wpAny _ _ (subscriptTail _ (Expr.Slice _ _ none _) (Value.ref _) (Value.ref _)) _ _ _))); walk1)))
    have hZ : SzL _ S := ⟨by rename IntsAre _ (List.map _ xs) => hq; rw [hS] at hq; exact hq, by omega, hS6⟩
    obtain ⟨hA1, hA2, hA3⟩ := fit_one _ hT0 hT4
    have hB5 : 12 ≤ 12 + xs.sum.fmod 5 ∧ 12 + xs.sum.fmod 5 ≤ 16 := by
      have h1 : 0 ≤ xs.sum.fmod 5 := Int.fmod_nonneg_of_pos _ (by decide)
      have h2 : xs.sum.fmod 5 < 5 := Int.fmod_lt_of_pos _ (by decide)
      omega
    obtain ⟨ci, hci, hIk, hPr⟩ := an_ink (xs.sum.fdiv 16)
    rename Fr _ _ _ _ => Fg
    dsimp only at Fg
    (repeat' (first | (((((walk_at "m_guard"; fail_if_success (with_reducible show wpAny _ _ (subscriptTail _ (Expr.Slice _ _ none _) (Value.ref _) (Value.ref _)) _ _ _))); fail_if_success (with_reducible show wpAny _ _ (exec (Stmt.Assign _ (Expr.ListComp _ _ _ _) _) _) _ _ _); fail_if_success (with_reducible show LCg.CompSrc _ _ _ _ _ _ _ _ _ _ _ _ _ _); fail_if_success (with_reducible refine goodW_bool ?_ ?_ ?_ ?_))); k_unfold; (try dsimp only)) | ((first | (((with_reducible show wpAny _ _ (subscriptTail (Expr.Name _ _) (Expr.Name _ _) (Value.ref _) (Value.int _ _)) _ _ _); (refine law_item (by kmk_list) (by assumption) (by assumption) ?_ (by with_unfolding_all rfl)); intro qt')) | (((with_reducible show wpAny _ _ (call (Value.ref 121) _) _ _ _); (with_reducible rename Fr _ _ _ _ => qFc); (with_reducible rename News _ _ _ _ => qNc); (refine use_con (isub_con _ _ _ _ _) (by k_asm) (by k_asm) qFc qNc rfl (by walk_at "m_room") (by walk_at "m_room") trivial ?_); rintro qr qh' qtk' qF' qN' - ⟨qt', qe'⟩; subst qe'; (try dsimp only at qF'); k_sweep)) | (((with_reducible show wpAny _ _ (call (Value.ref 114) _) _ _ _); (with_reducible rename Fr _ _ _ _ => qFc); (with_reducible rename News _ _ _ _ => qNc); (refine use_con (imul_con _ _ _ _ _ (by assumption) ⟨by assumption, by omega⟩) (by k_asm) (by k_asm) qFc qNc rfl (by walk_at "m_room") (by walk_at "m_room") trivial ?_); rintro qr qh' qtk' qF' qN' - ⟨qt', qe'⟩; subst qe'; (try dsimp only at qF'); k_sweep)) | (((with_reducible show wpAny _ _ (call (Value.ref 145) _) _ _ _); (with_reducible rename Fr _ _ _ _ => qFc); (with_reducible rename News _ _ _ _ => qNc); (first | (refine use_con (lines_S _ true 120 _ _ _ _ (by decide) (by decide)) (by k_asm) (by k_asm) qFc qNc rfl (by walk_at "m_room") (by walk_at "m_room") ⟨_, (by kmk_list), by assumption⟩ ?_) | (refine use_con (lines_S _ false _ _ _ _ _ (by assumption) (by assumption)) (by k_asm) (by k_asm) qFc qNc rfl (by walk_at "m_room") (by walk_at "m_room") ⟨_, (by kmk_list), by assumption⟩ ?_)); rintro qr qh' qtk' qF' qN' - ⟨qa', qvs', qn', qe', qhn', qhg', qhi'⟩; subst qe'; (have qNa' := news_add qFc qN' qhn' qhg'); (try dsimp only at qF'); k_sweep; clear qN')) | (((with_reducible show wpAny _ _ (call (Value.ref 138) _) _ _ _); (with_reducible rename Fr _ _ _ _ => qFc); (with_reducible rename News _ _ _ _ => qNc); (refine use_con (ports_S _ _ _ _ _ (by assumption)) (by k_asm) (by k_asm) qFc qNc rfl (by walk_at "m_room") (by walk_at "m_room") ⟨_, News.isList qNc (.head _), by assumption⟩ ?_); rintro qr qh' qtk' qF' qN' - ⟨qa', qvs', qn', qe', qhn', qhg', qhi'⟩; subst qe'; (have qNa' := news_add qFc qN' qhn' qhg'); (try dsimp only at qF'); k_sweep; clear qN')) | (((with_reducible show wpAny _ _ (call (Value.ref 131) _) _ _ _); (with_reducible rename Fr _ _ _ _ => qFc); (with_reducible rename News _ _ _ _ => qNc); (refine use_con (counts_S _ _ _) (by k_asm) (by k_asm) qFc qNc rfl (by walk_at "m_room") (by walk_at "m_room") ⟨_, News.isList qNc (.head _), by assumption⟩ ?_); rintro qr qh' qtk' qF' qN' - ⟨qa', qvs', qn', qe', qhn', qhg', qhi'⟩; subst qe'; (have qNa' := news_add qFc qN' qhn' qhg'); (try dsimp only at qF'); k_sweep; clear qN')) | (((with_reducible show wpAny _ _ (subscriptTail _ (Expr.Slice _ _ none _) (Value.ref _) (Value.ref _)) _ _ _); (with_reducible rename Fr _ _ _ _ => qFc); (with_reducible rename News _ _ _ _ => qNc); (rename 0 ≤ 2 + _ => qhc); (first | (refine law_upto qFc qNc (by kmk_list) (by assumption) qhc ?_ (by with_unfolding_all rfl) (by kmk_pure)) | (refine law_from qFc qNc (by kmk_list) (by assumption) qhc ?_ (by with_unfolding_all rfl) (by kmk_pure))); intro qD' qws' qh' qF' qN' qhz'; (try dsimp only at qF'); k_sweep)) | walk_at "m_calls")) | (((((walk_at "m_guard"; fail_if_success (with_reducible show wpAny _ _ (subscriptTail _ (Expr.Slice _ _ none _) (Value.ref _) (Value.ref _)) _ _ _))); fail_if_success (with_reducible show wpAny _ _ (exec (Stmt.Assign _ (Expr.ListComp _ _ _ _) _) _) _ _ _); fail_if_success (with_reducible show LCg.CompSrc _ _ _ _ _ _ _ _ _ _ _ _ _ _); fail_if_success (with_reducible refine goodW_bool ?_ ?_ ?_ ?_))); walk1) | (dsimp only; ((((walk_at "m_guard"; fail_if_success (with_reducible show wpAny _ _ (subscriptTail _ (Expr.Slice _ _ none _) (Value.ref _) (Value.ref _)) _ _ _))); fail_if_success (with_reducible show wpAny _ _ (exec (Stmt.Assign _ (Expr.ListComp _ _ _ _) _) _) _ _ _); fail_if_success (with_reducible show LCg.CompSrc _ _ _ _ _ _ _ _ _ _ _ _ _ _); fail_if_success (with_reducible refine goodW_bool ?_ ?_ ?_ ?_))); walk1)))
    rename Fr _ _ _ _ => Fg
    refine LCg.Assign_ListComp_U (F₀ := Fg) (by rfl) (by with_unfolding_all rfl) (by with_unfolding_all rfl) (by decide) (by rfl) (by decide) (by rfl) (by rfl) (by rfl) ?_
    (repeat' (first | (((((walk_at "m_guard"; fail_if_success (with_reducible show wpAny _ _ (subscriptTail _ (Expr.Slice _ _ none _) (Value.ref _) (Value.ref _)) _ _ _))); fail_if_success (with_reducible show wpAny _ _ (exec (Stmt.Assign _ (Expr.ListComp _ _ _ _) _) _) _ _ _); fail_if_success (with_reducible show LCg.CompSrc _ _ _ _ _ _ _ _ _ _ _ _ _ _); fail_if_success (with_reducible refine goodW_bool ?_ ?_ ?_ ?_))); k_unfold; (try dsimp only)) | ((first | (((with_reducible show wpAny _ _ (subscriptTail (Expr.Name _ _) (Expr.Name _ _) (Value.ref _) (Value.int _ _)) _ _ _); (refine law_item (by kmk_list) (by assumption) (by assumption) ?_ (by with_unfolding_all rfl)); intro qt')) | (((with_reducible show wpAny _ _ (call (Value.ref 121) _) _ _ _); (with_reducible rename Fr _ _ _ _ => qFc); (with_reducible rename News _ _ _ _ => qNc); (refine use_con (isub_con _ _ _ _ _) (by k_asm) (by k_asm) qFc qNc rfl (by walk_at "m_room") (by walk_at "m_room") trivial ?_); rintro qr qh' qtk' qF' qN' - ⟨qt', qe'⟩; subst qe'; (try dsimp only at qF'); k_sweep)) | (((with_reducible show wpAny _ _ (call (Value.ref 114) _) _ _ _); (with_reducible rename Fr _ _ _ _ => qFc); (with_reducible rename News _ _ _ _ => qNc); (refine use_con (imul_con _ _ _ _ _ (by assumption) ⟨by assumption, by omega⟩) (by k_asm) (by k_asm) qFc qNc rfl (by walk_at "m_room") (by walk_at "m_room") trivial ?_); rintro qr qh' qtk' qF' qN' - ⟨qt', qe'⟩; subst qe'; (try dsimp only at qF'); k_sweep)) | (((with_reducible show wpAny _ _ (call (Value.ref 145) _) _ _ _); (with_reducible rename Fr _ _ _ _ => qFc); (with_reducible rename News _ _ _ _ => qNc); (first | (refine use_con (lines_S _ true 120 _ _ _ _ (by decide) (by decide)) (by k_asm) (by k_asm) qFc qNc rfl (by walk_at "m_room") (by walk_at "m_room") ⟨_, (by kmk_list), by assumption⟩ ?_) | (refine use_con (lines_S _ false _ _ _ _ _ (by assumption) (by assumption)) (by k_asm) (by k_asm) qFc qNc rfl (by walk_at "m_room") (by walk_at "m_room") ⟨_, (by kmk_list), by assumption⟩ ?_)); rintro qr qh' qtk' qF' qN' - ⟨qa', qvs', qn', qe', qhn', qhg', qhi'⟩; subst qe'; (have qNa' := news_add qFc qN' qhn' qhg'); (try dsimp only at qF'); k_sweep; clear qN')) | (((with_reducible show wpAny _ _ (call (Value.ref 138) _) _ _ _); (with_reducible rename Fr _ _ _ _ => qFc); (with_reducible rename News _ _ _ _ => qNc); (refine use_con (ports_S _ _ _ _ _ (by assumption)) (by k_asm) (by k_asm) qFc qNc rfl (by walk_at "m_room") (by walk_at "m_room") ⟨_, News.isList qNc (.head _), by assumption⟩ ?_); rintro qr qh' qtk' qF' qN' - ⟨qa', qvs', qn', qe', qhn', qhg', qhi'⟩; subst qe'; (have qNa' := news_add qFc qN' qhn' qhg'); (try dsimp only at qF'); k_sweep; clear qN')) | (((with_reducible show wpAny _ _ (call (Value.ref 131) _) _ _ _); (with_reducible rename Fr _ _ _ _ => qFc); (with_reducible rename News _ _ _ _ => qNc); (refine use_con (counts_S _ _ _) (by k_asm) (by k_asm) qFc qNc rfl (by walk_at "m_room") (by walk_at "m_room") ⟨_, News.isList qNc (.head _), by assumption⟩ ?_); rintro qr qh' qtk' qF' qN' - ⟨qa', qvs', qn', qe', qhn', qhg', qhi'⟩; subst qe'; (have qNa' := news_add qFc qN' qhn' qhg'); (try dsimp only at qF'); k_sweep; clear qN')) | (((with_reducible show wpAny _ _ (subscriptTail _ (Expr.Slice _ _ none _) (Value.ref _) (Value.ref _)) _ _ _); (with_reducible rename Fr _ _ _ _ => qFc); (with_reducible rename News _ _ _ _ => qNc); (rename 0 ≤ 2 + _ => qhc); (first | (refine law_upto qFc qNc (by kmk_list) (by assumption) qhc ?_ (by with_unfolding_all rfl) (by kmk_pure)) | (refine law_from qFc qNc (by kmk_list) (by assumption) qhc ?_ (by with_unfolding_all rfl) (by kmk_pure))); intro qD' qws' qh' qF' qN' qhz'; (try dsimp only at qF'); k_sweep)) | walk_at "m_calls")) | (((((walk_at "m_guard"; fail_if_success (with_reducible show wpAny _ _ (subscriptTail _ (Expr.Slice _ _ none _) (Value.ref _) (Value.ref _)) _ _ _))); fail_if_success (with_reducible show wpAny _ _ (exec (Stmt.Assign _ (Expr.ListComp _ _ _ _) _) _) _ _ _); fail_if_success (with_reducible show LCg.CompSrc _ _ _ _ _ _ _ _ _ _ _ _ _ _); fail_if_success (with_reducible refine goodW_bool ?_ ?_ ?_ ?_))); walk1) | (dsimp only; ((((walk_at "m_guard"; fail_if_success (with_reducible show wpAny _ _ (subscriptTail _ (Expr.Slice _ _ none _) (Value.ref _) (Value.ref _)) _ _ _))); fail_if_success (with_reducible show wpAny _ _ (exec (Stmt.Assign _ (Expr.ListComp _ _ _ _) _) _) _ _ _); fail_if_success (with_reducible show LCg.CompSrc _ _ _ _ _ _ _ _ _ _ _ _ _ _); fail_if_success (with_reducible refine goodW_bool ?_ ?_ ?_ ?_))); walk1)))
    rename Fr _ _ _ _ => Fg
    rename News _ _ _ _ => Ng
    refine LCg.CompSrc.ledger rfl Fg Ng (.head _) (by rename SzL _ _ => hq; rw [List.size_toArray, hq.1.length, List.length_map, sizeLine_eq]; have := hq.2.1; omega) ?_
    intro g'
    refine kct_list (ln true 120) (.inr ⟨_, .head _, rfl, _, rfl⟩) (by assumption) ?turn ?fin
    case turn =>
      rintro n t I oI C oC D m₂ ys h tk hn hC hx F N off
      k_sweep
      (simp only [LCg.Off3, and_true] at off)
      (repeat' (first | (((((walk_at "m_guard"; fail_if_success (with_reducible show wpAny _ _ (subscriptTail _ (Expr.Slice _ _ none _) (Value.ref _) (Value.ref _)) _ _ _))); fail_if_success (with_reducible show wpAny _ _ (exec (Stmt.Assign _ (Expr.ListComp _ _ _ _) _) _) _ _ _); fail_if_success (with_reducible show LCg.CompSrc _ _ _ _ _ _ _ _ _ _ _ _ _ _); fail_if_success (with_reducible refine goodW_bool ?_ ?_ ?_ ?_))); k_unfold; (try dsimp only)) | ((first | (((with_reducible show wpAny _ _ (subscriptTail (Expr.Name _ _) (Expr.Name _ _) (Value.ref _) (Value.int _ _)) _ _ _); (refine law_item (by kmk_list) (by assumption) (by assumption) ?_ (by with_unfolding_all rfl)); intro qt')) | (((with_reducible show wpAny _ _ (call (Value.ref 121) _) _ _ _); (with_reducible rename Fr _ _ _ _ => qFc); (with_reducible rename News _ _ _ _ => qNc); (refine use_con (isub_con _ _ _ _ _) (by k_asm) (by k_asm) qFc qNc rfl (by walk_at "m_room") (by walk_at "m_room") trivial ?_); rintro qr qh' qtk' qF' qN' - ⟨qt', qe'⟩; subst qe'; (try dsimp only at qF'); k_sweep)) | (((with_reducible show wpAny _ _ (call (Value.ref 114) _) _ _ _); (with_reducible rename Fr _ _ _ _ => qFc); (with_reducible rename News _ _ _ _ => qNc); (refine use_con (imul_con _ _ _ _ _ (by assumption) ⟨by assumption, by omega⟩) (by k_asm) (by k_asm) qFc qNc rfl (by walk_at "m_room") (by walk_at "m_room") trivial ?_); rintro qr qh' qtk' qF' qN' - ⟨qt', qe'⟩; subst qe'; (try dsimp only at qF'); k_sweep)) | (((with_reducible show wpAny _ _ (call (Value.ref 145) _) _ _ _); (with_reducible rename Fr _ _ _ _ => qFc); (with_reducible rename News _ _ _ _ => qNc); (first | (refine use_con (lines_S _ true 120 _ _ _ _ (by decide) (by decide)) (by k_asm) (by k_asm) qFc qNc rfl (by walk_at "m_room") (by walk_at "m_room") ⟨_, (by kmk_list), by assumption⟩ ?_) | (refine use_con (lines_S _ false _ _ _ _ _ (by assumption) (by assumption)) (by k_asm) (by k_asm) qFc qNc rfl (by walk_at "m_room") (by walk_at "m_room") ⟨_, (by kmk_list), by assumption⟩ ?_)); rintro qr qh' qtk' qF' qN' - ⟨qa', qvs', qn', qe', qhn', qhg', qhi'⟩; subst qe'; (have qNa' := news_add qFc qN' qhn' qhg'); (try dsimp only at qF'); k_sweep; clear qN')) | (((with_reducible show wpAny _ _ (call (Value.ref 138) _) _ _ _); (with_reducible rename Fr _ _ _ _ => qFc); (with_reducible rename News _ _ _ _ => qNc); (refine use_con (ports_S _ _ _ _ _ (by assumption)) (by k_asm) (by k_asm) qFc qNc rfl (by walk_at "m_room") (by walk_at "m_room") ⟨_, News.isList qNc (.head _), by assumption⟩ ?_); rintro qr qh' qtk' qF' qN' - ⟨qa', qvs', qn', qe', qhn', qhg', qhi'⟩; subst qe'; (have qNa' := news_add qFc qN' qhn' qhg'); (try dsimp only at qF'); k_sweep; clear qN')) | (((with_reducible show wpAny _ _ (call (Value.ref 131) _) _ _ _); (with_reducible rename Fr _ _ _ _ => qFc); (with_reducible rename News _ _ _ _ => qNc); (refine use_con (counts_S _ _ _) (by k_asm) (by k_asm) qFc qNc rfl (by walk_at "m_room") (by walk_at "m_room") ⟨_, News.isList qNc (.head _), by assumption⟩ ?_); rintro qr qh' qtk' qF' qN' - ⟨qa', qvs', qn', qe', qhn', qhg', qhi'⟩; subst qe'; (have qNa' := news_add qFc qN' qhn' qhg'); (try dsimp only at qF'); k_sweep; clear qN')) | (((with_reducible show wpAny _ _ (subscriptTail _ (Expr.Slice _ _ none _) (Value.ref _) (Value.ref _)) _ _ _); (with_reducible rename Fr _ _ _ _ => qFc); (with_reducible rename News _ _ _ _ => qNc); (rename 0 ≤ 2 + _ => qhc); (first | (refine law_upto qFc qNc (by kmk_list) (by assumption) qhc ?_ (by with_unfolding_all rfl) (by kmk_pure)) | (refine law_from qFc qNc (by kmk_list) (by assumption) qhc ?_ (by with_unfolding_all rfl) (by kmk_pure))); intro qD' qws' qh' qF' qN' qhz'; (try dsimp only at qF'); k_sweep)) | walk_at "m_calls")) | (((((walk_at "m_guard"; fail_if_success (with_reducible show wpAny _ _ (subscriptTail _ (Expr.Slice _ _ none _) (Value.ref _) (Value.ref _)) _ _ _))); fail_if_success (with_reducible show wpAny _ _ (exec (Stmt.Assign _ (Expr.ListComp _ _ _ _) _) _) _ _ _); fail_if_success (with_reducible show LCg.CompSrc _ _ _ _ _ _ _ _ _ _ _ _ _ _); fail_if_success (with_reducible refine goodW_bool ?_ ?_ ?_ ?_))); walk1) | (dsimp only; ((((walk_at "m_guard"; fail_if_success (with_reducible show wpAny _ _ (subscriptTail _ (Expr.Slice _ _ none _) (Value.ref _) (Value.ref _)) _ _ _))); fail_if_success (with_reducible show wpAny _ _ (exec (Stmt.Assign _ (Expr.ListComp _ _ _ _) _) _) _ _ _); fail_if_success (with_reducible show LCg.CompSrc _ _ _ _ _ _ _ _ _ _ _ _ _ _); fail_if_success (with_reducible refine goodW_bool ?_ ?_ ?_ ?_))); walk1)))
      refine cut_end (by k_asm) (by k_asm) ⟨_, congrArg (fun z => Value.str z _) ((ahead_made 120 (by decide) n hn).trans (congrFun (ln_ahead 120) n).symm)⟩
    unfold LCg.FinA
    intro ys' hy' D h tk F N o1
    rename SzL _ _ => hq
    have hTx : TxL (ln true 120) ys' _ := ⟨hy', hq.2⟩
    dsimp only at F
    k_sweep
    (repeat' (first | (((((walk_at "m_guard"; fail_if_success (with_reducible show wpAny _ _ (subscriptTail _ (Expr.Slice _ _ none _) (Value.ref _) (Value.ref _)) _ _ _))); fail_if_success (with_reducible show wpAny _ _ (exec (Stmt.Assign _ (Expr.ListComp _ _ _ _) _) _) _ _ _); fail_if_success (with_reducible show LCg.CompSrc _ _ _ _ _ _ _ _ _ _ _ _ _ _); fail_if_success (with_reducible refine goodW_bool ?_ ?_ ?_ ?_))); k_unfold; (try dsimp only)) | ((first | (((with_reducible show wpAny _ _ (subscriptTail (Expr.Name _ _) (Expr.Name _ _) (Value.ref _) (Value.int _ _)) _ _ _); (refine law_item (by kmk_list) (by assumption) (by assumption) ?_ (by with_unfolding_all rfl)); intro qt')) | (((with_reducible show wpAny _ _ (call (Value.ref 121) _) _ _ _); (with_reducible rename Fr _ _ _ _ => qFc); (with_reducible rename News _ _ _ _ => qNc); (refine use_con (isub_con _ _ _ _ _) (by k_asm) (by k_asm) qFc qNc rfl (by walk_at "m_room") (by walk_at "m_room") trivial ?_); rintro qr qh' qtk' qF' qN' - ⟨qt', qe'⟩; subst qe'; (try dsimp only at qF'); k_sweep)) | (((with_reducible show wpAny _ _ (call (Value.ref 114) _) _ _ _); (with_reducible rename Fr _ _ _ _ => qFc); (with_reducible rename News _ _ _ _ => qNc); (refine use_con (imul_con _ _ _ _ _ (by assumption) ⟨by assumption, by omega⟩) (by k_asm) (by k_asm) qFc qNc rfl (by walk_at "m_room") (by walk_at "m_room") trivial ?_); rintro qr qh' qtk' qF' qN' - ⟨qt', qe'⟩; subst qe'; (try dsimp only at qF'); k_sweep)) | (((with_reducible show wpAny _ _ (call (Value.ref 145) _) _ _ _); (with_reducible rename Fr _ _ _ _ => qFc); (with_reducible rename News _ _ _ _ => qNc); (first | (refine use_con (lines_S _ true 120 _ _ _ _ (by decide) (by decide)) (by k_asm) (by k_asm) qFc qNc rfl (by walk_at "m_room") (by walk_at "m_room") ⟨_, (by kmk_list), by assumption⟩ ?_) | (refine use_con (lines_S _ false _ _ _ _ _ (by assumption) (by assumption)) (by k_asm) (by k_asm) qFc qNc rfl (by walk_at "m_room") (by walk_at "m_room") ⟨_, (by kmk_list), by assumption⟩ ?_)); rintro qr qh' qtk' qF' qN' - ⟨qa', qvs', qn', qe', qhn', qhg', qhi'⟩; subst qe'; (have qNa' := news_add qFc qN' qhn' qhg'); (try dsimp only at qF'); k_sweep; clear qN')) | (((with_reducible show wpAny _ _ (call (Value.ref 138) _) _ _ _); (with_reducible rename Fr _ _ _ _ => qFc); (with_reducible rename News _ _ _ _ => qNc); (refine use_con (ports_S _ _ _ _ _ (by assumption)) (by k_asm) (by k_asm) qFc qNc rfl (by walk_at "m_room") (by walk_at "m_room") ⟨_, News.isList qNc (.head _), by assumption⟩ ?_); rintro qr qh' qtk' qF' qN' - ⟨qa', qvs', qn', qe', qhn', qhg', qhi'⟩; subst qe'; (have qNa' := news_add qFc qN' qhn' qhg'); (try dsimp only at qF'); k_sweep; clear qN')) | (((with_reducible show wpAny _ _ (call (Value.ref 131) _) _ _ _); (with_reducible rename Fr _ _ _ _ => qFc); (with_reducible rename News _ _ _ _ => qNc); (refine use_con (counts_S _ _ _) (by k_asm) (by k_asm) qFc qNc rfl (by walk_at "m_room") (by walk_at "m_room") ⟨_, News.isList qNc (.head _), by assumption⟩ ?_); rintro qr qh' qtk' qF' qN' - ⟨qa', qvs', qn', qe', qhn', qhg', qhi'⟩; subst qe'; (have qNa' := news_add qFc qN' qhn' qhg'); (try dsimp only at qF'); k_sweep; clear qN')) | (((with_reducible show wpAny _ _ (subscriptTail _ (Expr.Slice _ _ none _) (Value.ref _) (Value.ref _)) _ _ _); (with_reducible rename Fr _ _ _ _ => qFc); (with_reducible rename News _ _ _ _ => qNc); (rename 0 ≤ 2 + _ => qhc); (first | (refine law_upto qFc qNc (by kmk_list) (by assumption) qhc ?_ (by with_unfolding_all rfl) (by kmk_pure)) | (refine law_from qFc qNc (by kmk_list) (by assumption) qhc ?_ (by with_unfolding_all rfl) (by kmk_pure))); intro qD' qws' qh' qF' qN' qhz'; (try dsimp only at qF'); k_sweep)) | walk_at "m_calls")) | (((((walk_at "m_guard"; fail_if_success (with_reducible show wpAny _ _ (subscriptTail _ (Expr.Slice _ _ none _) (Value.ref _) (Value.ref _)) _ _ _))); fail_if_success (with_reducible show wpAny _ _ (exec (Stmt.Assign _ (Expr.ListComp _ _ _ _) _) _) _ _ _); fail_if_success (with_reducible show LCg.CompSrc _ _ _ _ _ _ _ _ _ _ _ _ _ _); fail_if_success (with_reducible refine goodW_bool ?_ ?_ ?_ ?_))); walk1) | (dsimp only; ((((walk_at "m_guard"; fail_if_success (with_reducible show wpAny _ _ (subscriptTail _ (Expr.Slice _ _ none _) (Value.ref _) (Value.ref _)) _ _ _))); fail_if_success (with_reducible show wpAny _ _ (exec (Stmt.Assign _ (Expr.ListComp _ _ _ _) _) _) _ _ _); fail_if_success (with_reducible show LCg.CompSrc _ _ _ _ _ _ _ _ _ _ _ _ _ _); fail_if_success (with_reducible refine goodW_bool ?_ ?_ ?_ ?_))); walk1)))
    rename Fr _ _ _ _ => Fg
    refine LCg.Assign_ListComp_U (F₀ := Fg) (by rfl) (by with_unfolding_all rfl) (by with_unfolding_all rfl) (by decide) (by rfl) (by decide) (by rfl) (by rfl) (by rfl) ?_
    (repeat' (first | (((((walk_at "m_guard"; fail_if_success (with_reducible show wpAny _ _ (subscriptTail _ (Expr.Slice _ _ none _) (Value.ref _) (Value.ref _)) _ _ _))); fail_if_success (with_reducible show wpAny _ _ (exec (Stmt.Assign _ (Expr.ListComp _ _ _ _) _) _) _ _ _); fail_if_success (with_reducible show LCg.CompSrc _ _ _ _ _ _ _ _ _ _ _ _ _ _); fail_if_success (with_reducible refine goodW_bool ?_ ?_ ?_ ?_))); k_unfold; (try dsimp only)) | ((first | (((with_reducible show wpAny _ _ (subscriptTail (Expr.Name _ _) (Expr.Name _ _) (Value.ref _) (Value.int _ _)) _ _ _); (refine law_item (by kmk_list) (by assumption) (by assumption) ?_ (by with_unfolding_all rfl)); intro qt')) | (((with_reducible show wpAny _ _ (call (Value.ref 121) _) _ _ _); (with_reducible rename Fr _ _ _ _ => qFc); (with_reducible rename News _ _ _ _ => qNc); (refine use_con (isub_con _ _ _ _ _) (by k_asm) (by k_asm) qFc qNc rfl (by walk_at "m_room") (by walk_at "m_room") trivial ?_); rintro qr qh' qtk' qF' qN' - ⟨qt', qe'⟩; subst qe'; (try dsimp only at qF'); k_sweep)) | (((with_reducible show wpAny _ _ (call (Value.ref 114) _) _ _ _); (with_reducible rename Fr _ _ _ _ => qFc); (with_reducible rename News _ _ _ _ => qNc); (refine use_con (imul_con _ _ _ _ _ (by assumption) ⟨by assumption, by omega⟩) (by k_asm) (by k_asm) qFc qNc rfl (by walk_at "m_room") (by walk_at "m_room") trivial ?_); rintro qr qh' qtk' qF' qN' - ⟨qt', qe'⟩; subst qe'; (try dsimp only at qF'); k_sweep)) | (((with_reducible show wpAny _ _ (call (Value.ref 145) _) _ _ _); (with_reducible rename Fr _ _ _ _ => qFc); (with_reducible rename News _ _ _ _ => qNc); (first | (refine use_con (lines_S _ true 120 _ _ _ _ (by decide) (by decide)) (by k_asm) (by k_asm) qFc qNc rfl (by walk_at "m_room") (by walk_at "m_room") ⟨_, (by kmk_list), by assumption⟩ ?_) | (refine use_con (lines_S _ false _ _ _ _ _ (by assumption) (by assumption)) (by k_asm) (by k_asm) qFc qNc rfl (by walk_at "m_room") (by walk_at "m_room") ⟨_, (by kmk_list), by assumption⟩ ?_)); rintro qr qh' qtk' qF' qN' - ⟨qa', qvs', qn', qe', qhn', qhg', qhi'⟩; subst qe'; (have qNa' := news_add qFc qN' qhn' qhg'); (try dsimp only at qF'); k_sweep; clear qN')) | (((with_reducible show wpAny _ _ (call (Value.ref 138) _) _ _ _); (with_reducible rename Fr _ _ _ _ => qFc); (with_reducible rename News _ _ _ _ => qNc); (refine use_con (ports_S _ _ _ _ _ (by assumption)) (by k_asm) (by k_asm) qFc qNc rfl (by walk_at "m_room") (by walk_at "m_room") ⟨_, News.isList qNc (.head _), by assumption⟩ ?_); rintro qr qh' qtk' qF' qN' - ⟨qa', qvs', qn', qe', qhn', qhg', qhi'⟩; subst qe'; (have qNa' := news_add qFc qN' qhn' qhg'); (try dsimp only at qF'); k_sweep; clear qN')) | (((with_reducible show wpAny _ _ (call (Value.ref 131) _) _ _ _); (with_reducible rename Fr _ _ _ _ => qFc); (with_reducible rename News _ _ _ _ => qNc); (refine use_con (counts_S _ _ _) (by k_asm) (by k_asm) qFc qNc rfl (by walk_at "m_room") (by walk_at "m_room") ⟨_, News.isList qNc (.head _), by assumption⟩ ?_); rintro qr qh' qtk' qF' qN' - ⟨qa', qvs', qn', qe', qhn', qhg', qhi'⟩; subst qe'; (have qNa' := news_add qFc qN' qhn' qhg'); (try dsimp only at qF'); k_sweep; clear qN')) | (((with_reducible show wpAny _ _ (subscriptTail _ (Expr.Slice _ _ none _) (Value.ref _) (Value.ref _)) _ _ _); (with_reducible rename Fr _ _ _ _ => qFc); (with_reducible rename News _ _ _ _ => qNc); (rename 0 ≤ 2 + _ => qhc); (first | (refine law_upto qFc qNc (by kmk_list) (by assumption) qhc ?_ (by with_unfolding_all rfl) (by kmk_pure)) | (refine law_from qFc qNc (by kmk_list) (by assumption) qhc ?_ (by with_unfolding_all rfl) (by kmk_pure))); intro qD' qws' qh' qF' qN' qhz'; (try dsimp only at qF'); k_sweep)) | walk_at "m_calls")) | (((((walk_at "m_guard"; fail_if_success (with_reducible show wpAny _ _ (subscriptTail _ (Expr.Slice _ _ none _) (Value.ref _) (Value.ref _)) _ _ _))); fail_if_success (with_reducible show wpAny _ _ (exec (Stmt.Assign _ (Expr.ListComp _ _ _ _) _) _) _ _ _); fail_if_success (with_reducible show LCg.CompSrc _ _ _ _ _ _ _ _ _ _ _ _ _ _); fail_if_success (with_reducible refine goodW_bool ?_ ?_ ?_ ?_))); walk1) | (dsimp only; ((((walk_at "m_guard"; fail_if_success (with_reducible show wpAny _ _ (subscriptTail _ (Expr.Slice _ _ none _) (Value.ref _) (Value.ref _)) _ _ _))); fail_if_success (with_reducible show wpAny _ _ (exec (Stmt.Assign _ (Expr.ListComp _ _ _ _) _) _) _ _ _); fail_if_success (with_reducible show LCg.CompSrc _ _ _ _ _ _ _ _ _ _ _ _ _ _); fail_if_success (with_reducible refine goodW_bool ?_ ?_ ?_ ?_))); walk1)))
    rename Fr _ _ _ _ => Fg
    rename News _ _ _ _ => Ng
    refine LCg.CompSrc.ledger rfl Fg Ng (.head _) (by rename SzL _ _ => hq; rw [List.size_toArray, hq.1.length, List.length_map, sizeLine_eq]; have := hq.2.1; omega) ?_
    intro g'
    refine kct_list (ln false ci) (.inr ⟨_, .head _, rfl, _, rfl⟩) (by assumption) ?turn2 ?fin2
    case turn2 =>
      rintro n t I oI C oC D m₂ ys h tk hn hC hx F N off
      k_sweep
      (simp only [LCg.Off3, and_true] at off)
      (repeat' (first | (((((walk_at "m_guard"; fail_if_success (with_reducible show wpAny _ _ (subscriptTail _ (Expr.Slice _ _ none _) (Value.ref _) (Value.ref _)) _ _ _))); fail_if_success (with_reducible show wpAny _ _ (exec (Stmt.Assign _ (Expr.ListComp _ _ _ _) _) _) _ _ _); fail_if_success (with_reducible show LCg.CompSrc _ _ _ _ _ _ _ _ _ _ _ _ _ _); fail_if_success (with_reducible refine goodW_bool ?_ ?_ ?_ ?_))); k_unfold; (try dsimp only)) | ((first | (((with_reducible show wpAny _ _ (subscriptTail (Expr.Name _ _) (Expr.Name _ _) (Value.ref _) (Value.int _ _)) _ _ _); (refine law_item (by kmk_list) (by assumption) (by assumption) ?_ (by with_unfolding_all rfl)); intro qt')) | (((with_reducible show wpAny _ _ (call (Value.ref 121) _) _ _ _); (with_reducible rename Fr _ _ _ _ => qFc); (with_reducible rename News _ _ _ _ => qNc); (refine use_con (isub_con _ _ _ _ _) (by k_asm) (by k_asm) qFc qNc rfl (by walk_at "m_room") (by walk_at "m_room") trivial ?_); rintro qr qh' qtk' qF' qN' - ⟨qt', qe'⟩; subst qe'; (try dsimp only at qF'); k_sweep)) | (((with_reducible show wpAny _ _ (call (Value.ref 114) _) _ _ _); (with_reducible rename Fr _ _ _ _ => qFc); (with_reducible rename News _ _ _ _ => qNc); (refine use_con (imul_con _ _ _ _ _ (by assumption) ⟨by assumption, by omega⟩) (by k_asm) (by k_asm) qFc qNc rfl (by walk_at "m_room") (by walk_at "m_room") trivial ?_); rintro qr qh' qtk' qF' qN' - ⟨qt', qe'⟩; subst qe'; (try dsimp only at qF'); k_sweep)) | (((with_reducible show wpAny _ _ (call (Value.ref 145) _) _ _ _); (with_reducible rename Fr _ _ _ _ => qFc); (with_reducible rename News _ _ _ _ => qNc); (first | (refine use_con (lines_S _ true 120 _ _ _ _ (by decide) (by decide)) (by k_asm) (by k_asm) qFc qNc rfl (by walk_at "m_room") (by walk_at "m_room") ⟨_, (by kmk_list), by assumption⟩ ?_) | (refine use_con (lines_S _ false _ _ _ _ _ (by assumption) (by assumption)) (by k_asm) (by k_asm) qFc qNc rfl (by walk_at "m_room") (by walk_at "m_room") ⟨_, (by kmk_list), by assumption⟩ ?_)); rintro qr qh' qtk' qF' qN' - ⟨qa', qvs', qn', qe', qhn', qhg', qhi'⟩; subst qe'; (have qNa' := news_add qFc qN' qhn' qhg'); (try dsimp only at qF'); k_sweep; clear qN')) | (((with_reducible show wpAny _ _ (call (Value.ref 138) _) _ _ _); (with_reducible rename Fr _ _ _ _ => qFc); (with_reducible rename News _ _ _ _ => qNc); (refine use_con (ports_S _ _ _ _ _ (by assumption)) (by k_asm) (by k_asm) qFc qNc rfl (by walk_at "m_room") (by walk_at "m_room") ⟨_, News.isList qNc (.head _), by assumption⟩ ?_); rintro qr qh' qtk' qF' qN' - ⟨qa', qvs', qn', qe', qhn', qhg', qhi'⟩; subst qe'; (have qNa' := news_add qFc qN' qhn' qhg'); (try dsimp only at qF'); k_sweep; clear qN')) | (((with_reducible show wpAny _ _ (call (Value.ref 131) _) _ _ _); (with_reducible rename Fr _ _ _ _ => qFc); (with_reducible rename News _ _ _ _ => qNc); (refine use_con (counts_S _ _ _) (by k_asm) (by k_asm) qFc qNc rfl (by walk_at "m_room") (by walk_at "m_room") ⟨_, News.isList qNc (.head _), by assumption⟩ ?_); rintro qr qh' qtk' qF' qN' - ⟨qa', qvs', qn', qe', qhn', qhg', qhi'⟩; subst qe'; (have qNa' := news_add qFc qN' qhn' qhg'); (try dsimp only at qF'); k_sweep; clear qN')) | (((with_reducible show wpAny _ _ (subscriptTail _ (Expr.Slice _ _ none _) (Value.ref _) (Value.ref _)) _ _ _); (with_reducible rename Fr _ _ _ _ => qFc); (with_reducible rename News _ _ _ _ => qNc); (rename 0 ≤ 2 + _ => qhc); (first | (refine law_upto qFc qNc (by kmk_list) (by assumption) qhc ?_ (by with_unfolding_all rfl) (by kmk_pure)) | (refine law_from qFc qNc (by kmk_list) (by assumption) qhc ?_ (by with_unfolding_all rfl) (by kmk_pure))); intro qD' qws' qh' qF' qN' qhz'; (try dsimp only at qF'); k_sweep)) | walk_at "m_calls")) | (((((walk_at "m_guard"; fail_if_success (with_reducible show wpAny _ _ (subscriptTail _ (Expr.Slice _ _ none _) (Value.ref _) (Value.ref _)) _ _ _))); fail_if_success (with_reducible show wpAny _ _ (exec (Stmt.Assign _ (Expr.ListComp _ _ _ _) _) _) _ _ _); fail_if_success (with_reducible show LCg.CompSrc _ _ _ _ _ _ _ _ _ _ _ _ _ _); fail_if_success (with_reducible refine goodW_bool ?_ ?_ ?_ ?_))); walk1) | (dsimp only; ((((walk_at "m_guard"; fail_if_success (with_reducible show wpAny _ _ (subscriptTail _ (Expr.Slice _ _ none _) (Value.ref _) (Value.ref _)) _ _ _))); fail_if_success (with_reducible show wpAny _ _ (exec (Stmt.Assign _ (Expr.ListComp _ _ _ _) _) _) _ _ _); fail_if_success (with_reducible show LCg.CompSrc _ _ _ _ _ _ _ _ _ _ _ _ _ _); fail_if_success (with_reducible refine goodW_bool ?_ ?_ ?_ ?_))); walk1)))
      refine cut_end (by k_asm) (by k_asm) ⟨_, congrArg (fun z => Value.str z _) (by rw [hIk]; exact behind_made ci hci n hn)⟩
    unfold LCg.FinA
    intro ys' hy' D h tk F N o1
    rename SzL _ _ => hq
    have hTx : TxL (ln false ci) ys' _ := ⟨hy', hq.2⟩
    dsimp only at F
    k_sweep
    (repeat' (first | (((((walk_at "m_guard"; fail_if_success (with_reducible show wpAny _ _ (subscriptTail _ (Expr.Slice _ _ none _) (Value.ref _) (Value.ref _)) _ _ _))); fail_if_success (with_reducible show wpAny _ _ (exec (Stmt.Assign _ (Expr.ListComp _ _ _ _) _) _) _ _ _); fail_if_success (with_reducible show LCg.CompSrc _ _ _ _ _ _ _ _ _ _ _ _ _ _); fail_if_success (with_reducible refine goodW_bool ?_ ?_ ?_ ?_))); k_unfold; (try dsimp only)) | ((first | (((with_reducible show wpAny _ _ (subscriptTail (Expr.Name _ _) (Expr.Name _ _) (Value.ref _) (Value.int _ _)) _ _ _); (refine law_item (by kmk_list) (by assumption) (by assumption) ?_ (by with_unfolding_all rfl)); intro qt')) | (((with_reducible show wpAny _ _ (call (Value.ref 121) _) _ _ _); (with_reducible rename Fr _ _ _ _ => qFc); (with_reducible rename News _ _ _ _ => qNc); (refine use_con (isub_con _ _ _ _ _) (by k_asm) (by k_asm) qFc qNc rfl (by walk_at "m_room") (by walk_at "m_room") trivial ?_); rintro qr qh' qtk' qF' qN' - ⟨qt', qe'⟩; subst qe'; (try dsimp only at qF'); k_sweep)) | (((with_reducible show wpAny _ _ (call (Value.ref 114) _) _ _ _); (with_reducible rename Fr _ _ _ _ => qFc); (with_reducible rename News _ _ _ _ => qNc); (refine use_con (imul_con _ _ _ _ _ (by assumption) ⟨by assumption, by omega⟩) (by k_asm) (by k_asm) qFc qNc rfl (by walk_at "m_room") (by walk_at "m_room") trivial ?_); rintro qr qh' qtk' qF' qN' - ⟨qt', qe'⟩; subst qe'; (try dsimp only at qF'); k_sweep)) | (((with_reducible show wpAny _ _ (call (Value.ref 145) _) _ _ _); (with_reducible rename Fr _ _ _ _ => qFc); (with_reducible rename News _ _ _ _ => qNc); (first | (refine use_con (lines_S _ true 120 _ _ _ _ (by decide) (by decide)) (by k_asm) (by k_asm) qFc qNc rfl (by walk_at "m_room") (by walk_at "m_room") ⟨_, (by kmk_list), by assumption⟩ ?_) | (refine use_con (lines_S _ false _ _ _ _ _ (by assumption) (by assumption)) (by k_asm) (by k_asm) qFc qNc rfl (by walk_at "m_room") (by walk_at "m_room") ⟨_, (by kmk_list), by assumption⟩ ?_)); rintro qr qh' qtk' qF' qN' - ⟨qa', qvs', qn', qe', qhn', qhg', qhi'⟩; subst qe'; (have qNa' := news_add qFc qN' qhn' qhg'); (try dsimp only at qF'); k_sweep; clear qN')) | (((with_reducible show wpAny _ _ (call (Value.ref 138) _) _ _ _); (with_reducible rename Fr _ _ _ _ => qFc); (with_reducible rename News _ _ _ _ => qNc); (refine use_con (ports_S _ _ _ _ _ (by assumption)) (by k_asm) (by k_asm) qFc qNc rfl (by walk_at "m_room") (by walk_at "m_room") ⟨_, News.isList qNc (.head _), by assumption⟩ ?_); rintro qr qh' qtk' qF' qN' - ⟨qa', qvs', qn', qe', qhn', qhg', qhi'⟩; subst qe'; (have qNa' := news_add qFc qN' qhn' qhg'); (try dsimp only at qF'); k_sweep; clear qN')) | (((with_reducible show wpAny _ _ (call (Value.ref 131) _) _ _ _); (with_reducible rename Fr _ _ _ _ => qFc); (with_reducible rename News _ _ _ _ => qNc); (refine use_con (counts_S _ _ _) (by k_asm) (by k_asm) qFc qNc rfl (by walk_at "m_room") (by walk_at "m_room") ⟨_, News.isList qNc (.head _), by assumption⟩ ?_); rintro qr qh' qtk' qF' qN' - ⟨qa', qvs', qn', qe', qhn', qhg', qhi'⟩; subst qe'; (have qNa' := news_add qFc qN' qhn' qhg'); (try dsimp only at qF'); k_sweep; clear qN')) | (((with_reducible show wpAny _ _ (subscriptTail _ (Expr.Slice _ _ none _) (Value.ref _) (Value.ref _)) _ _ _); (with_reducible rename Fr _ _ _ _ => qFc); (with_reducible rename News _ _ _ _ => qNc); (rename 0 ≤ 2 + _ => qhc); (first | (refine law_upto qFc qNc (by kmk_list) (by assumption) qhc ?_ (by with_unfolding_all rfl) (by kmk_pure)) | (refine law_from qFc qNc (by kmk_list) (by assumption) qhc ?_ (by with_unfolding_all rfl) (by kmk_pure))); intro qD' qws' qh' qF' qN' qhz'; (try dsimp only at qF'); k_sweep)) | walk_at "m_calls")) | (((((walk_at "m_guard"; fail_if_success (with_reducible show wpAny _ _ (subscriptTail _ (Expr.Slice _ _ none _) (Value.ref _) (Value.ref _)) _ _ _))); fail_if_success (with_reducible show wpAny _ _ (exec (Stmt.Assign _ (Expr.ListComp _ _ _ _) _) _) _ _ _); fail_if_success (with_reducible show LCg.CompSrc _ _ _ _ _ _ _ _ _ _ _ _ _ _); fail_if_success (with_reducible refine goodW_bool ?_ ?_ ?_ ?_))); walk1) | (dsimp only; ((((walk_at "m_guard"; fail_if_success (with_reducible show wpAny _ _ (subscriptTail _ (Expr.Slice _ _ none _) (Value.ref _) (Value.ref _)) _ _ _))); fail_if_success (with_reducible show wpAny _ _ (exec (Stmt.Assign _ (Expr.ListComp _ _ _ _) _) _) _ _ _); fail_if_success (with_reducible show LCg.CompSrc _ _ _ _ _ _ _ _ _ _ _ _ _ _); fail_if_success (with_reducible refine goodW_bool ?_ ?_ ?_ ?_))); walk1)))
    rename Fr _ _ _ _ => Fg
    refine LCg.Assign_ListComp_U (F₀ := Fg) (by rfl) (by with_unfolding_all rfl) (by with_unfolding_all rfl) (by decide) (by rfl) (by decide) (by rfl) (by rfl) (by rfl) ?_
    (repeat' (first | (((((walk_at "m_guard"; fail_if_success (with_reducible show wpAny _ _ (subscriptTail _ (Expr.Slice _ _ none _) (Value.ref _) (Value.ref _)) _ _ _))); fail_if_success (with_reducible show wpAny _ _ (exec (Stmt.Assign _ (Expr.ListComp _ _ _ _) _) _) _ _ _); fail_if_success (with_reducible show LCg.CompSrc _ _ _ _ _ _ _ _ _ _ _ _ _ _); fail_if_success (with_reducible refine goodW_bool ?_ ?_ ?_ ?_))); k_unfold; (try dsimp only)) | ((first | (((with_reducible show wpAny _ _ (subscriptTail (Expr.Name _ _) (Expr.Name _ _) (Value.ref _) (Value.int _ _)) _ _ _); (refine law_item (by kmk_list) (by assumption) (by assumption) ?_ (by with_unfolding_all rfl)); intro qt')) | (((with_reducible show wpAny _ _ (call (Value.ref 121) _) _ _ _); (with_reducible rename Fr _ _ _ _ => qFc); (with_reducible rename News _ _ _ _ => qNc); (refine use_con (isub_con _ _ _ _ _) (by k_asm) (by k_asm) qFc qNc rfl (by walk_at "m_room") (by walk_at "m_room") trivial ?_); rintro qr qh' qtk' qF' qN' - ⟨qt', qe'⟩; subst qe'; (try dsimp only at qF'); k_sweep)) | (((with_reducible show wpAny _ _ (call (Value.ref 114) _) _ _ _); (with_reducible rename Fr _ _ _ _ => qFc); (with_reducible rename News _ _ _ _ => qNc); (refine use_con (imul_con _ _ _ _ _ (by assumption) ⟨by assumption, by omega⟩) (by k_asm) (by k_asm) qFc qNc rfl (by walk_at "m_room") (by walk_at "m_room") trivial ?_); rintro qr qh' qtk' qF' qN' - ⟨qt', qe'⟩; subst qe'; (try dsimp only at qF'); k_sweep)) | (((with_reducible show wpAny _ _ (call (Value.ref 145) _) _ _ _); (with_reducible rename Fr _ _ _ _ => qFc); (with_reducible rename News _ _ _ _ => qNc); (first | (refine use_con (lines_S _ true 120 _ _ _ _ (by decide) (by decide)) (by k_asm) (by k_asm) qFc qNc rfl (by walk_at "m_room") (by walk_at "m_room") ⟨_, (by kmk_list), by assumption⟩ ?_) | (refine use_con (lines_S _ false _ _ _ _ _ (by assumption) (by assumption)) (by k_asm) (by k_asm) qFc qNc rfl (by walk_at "m_room") (by walk_at "m_room") ⟨_, (by kmk_list), by assumption⟩ ?_)); rintro qr qh' qtk' qF' qN' - ⟨qa', qvs', qn', qe', qhn', qhg', qhi'⟩; subst qe'; (have qNa' := news_add qFc qN' qhn' qhg'); (try dsimp only at qF'); k_sweep; clear qN')) | (((with_reducible show wpAny _ _ (call (Value.ref 138) _) _ _ _); (with_reducible rename Fr _ _ _ _ => qFc); (with_reducible rename News _ _ _ _ => qNc); (refine use_con (ports_S _ _ _ _ _ (by assumption)) (by k_asm) (by k_asm) qFc qNc rfl (by walk_at "m_room") (by walk_at "m_room") ⟨_, News.isList qNc (.head _), by assumption⟩ ?_); rintro qr qh' qtk' qF' qN' - ⟨qa', qvs', qn', qe', qhn', qhg', qhi'⟩; subst qe'; (have qNa' := news_add qFc qN' qhn' qhg'); (try dsimp only at qF'); k_sweep; clear qN')) | (((with_reducible show wpAny _ _ (call (Value.ref 131) _) _ _ _); (with_reducible rename Fr _ _ _ _ => qFc); (with_reducible rename News _ _ _ _ => qNc); (refine use_con (counts_S _ _ _) (by k_asm) (by k_asm) qFc qNc rfl (by walk_at "m_room") (by walk_at "m_room") ⟨_, News.isList qNc (.head _), by assumption⟩ ?_); rintro qr qh' qtk' qF' qN' - ⟨qa', qvs', qn', qe', qhn', qhg', qhi'⟩; subst qe'; (have qNa' := news_add qFc qN' qhn' qhg'); (try dsimp only at qF'); k_sweep; clear qN')) | (((with_reducible show wpAny _ _ (subscriptTail _ (Expr.Slice _ _ none _) (Value.ref _) (Value.ref _)) _ _ _); (with_reducible rename Fr _ _ _ _ => qFc); (with_reducible rename News _ _ _ _ => qNc); (rename 0 ≤ 2 + _ => qhc); (first | (refine law_upto qFc qNc (by kmk_list) (by assumption) qhc ?_ (by with_unfolding_all rfl) (by kmk_pure)) | (refine law_from qFc qNc (by kmk_list) (by assumption) qhc ?_ (by with_unfolding_all rfl) (by kmk_pure))); intro qD' qws' qh' qF' qN' qhz'; (try dsimp only at qF'); k_sweep)) | walk_at "m_calls")) | (((((walk_at "m_guard"; fail_if_success (with_reducible show wpAny _ _ (subscriptTail _ (Expr.Slice _ _ none _) (Value.ref _) (Value.ref _)) _ _ _))); fail_if_success (with_reducible show wpAny _ _ (exec (Stmt.Assign _ (Expr.ListComp _ _ _ _) _) _) _ _ _); fail_if_success (with_reducible show LCg.CompSrc _ _ _ _ _ _ _ _ _ _ _ _ _ _); fail_if_success (with_reducible refine goodW_bool ?_ ?_ ?_ ?_))); walk1) | (dsimp only; ((((walk_at "m_guard"; fail_if_success (with_reducible show wpAny _ _ (subscriptTail _ (Expr.Slice _ _ none _) (Value.ref _) (Value.ref _)) _ _ _))); fail_if_success (with_reducible show wpAny _ _ (exec (Stmt.Assign _ (Expr.ListComp _ _ _ _) _) _) _ _ _); fail_if_success (with_reducible show LCg.CompSrc _ _ _ _ _ _ _ _ _ _ _ _ _ _); fail_if_success (with_reducible refine goodW_bool ?_ ?_ ?_ ?_))); walk1)))
    rename Fr _ _ _ _ => Fg
    rename News _ _ _ _ => Ng
    refine LCg.CompSrc.ledger rfl Fg Ng (.head _) (by rename SzL _ _ => hq; rw [List.size_toArray, hq.1.length, List.length_map, sizeLine_eq]; have := hq.2.1; omega) ?_
    intro g'
    refine kct_list (ln true ci) (.inr ⟨_, .head _, rfl, _, rfl⟩) (by assumption) ?turn3 ?fin3
    case turn3 =>
      rintro n t I oI C oC D m₂ ys h tk hn hC hx F N off
      k_sweep
      (simp only [LCg.Off3, and_true] at off)
      (repeat' (first | (((((walk_at "m_guard"; fail_if_success (with_reducible show wpAny _ _ (subscriptTail _ (Expr.Slice _ _ none _) (Value.ref _) (Value.ref _)) _ _ _))); fail_if_success (with_reducible show wpAny _ _ (exec (Stmt.Assign _ (Expr.ListComp _ _ _ _) _) _) _ _ _); fail_if_success (with_reducible show LCg.CompSrc _ _ _ _ _ _ _ _ _ _ _ _ _ _); fail_if_success (with_reducible refine goodW_bool ?_ ?_ ?_ ?_))); k_unfold; (try dsimp only)) | ((first | (((with_reducible show wpAny _ _ (subscriptTail (Expr.Name _ _) (Expr.Name _ _) (Value.ref _) (Value.int _ _)) _ _ _); (refine law_item (by kmk_list) (by assumption) (by assumption) ?_ (by with_unfolding_all rfl)); intro qt')) | (((with_reducible show wpAny _ _ (call (Value.ref 121) _) _ _ _); (with_reducible rename Fr _ _ _ _ => qFc); (with_reducible rename News _ _ _ _ => qNc); (refine use_con (isub_con _ _ _ _ _) (by k_asm) (by k_asm) qFc qNc rfl (by walk_at "m_room") (by walk_at "m_room") trivial ?_); rintro qr qh' qtk' qF' qN' - ⟨qt', qe'⟩; subst qe'; (try dsimp only at qF'); k_sweep)) | (((with_reducible show wpAny _ _ (call (Value.ref 114) _) _ _ _); (with_reducible rename Fr _ _ _ _ => qFc); (with_reducible rename News _ _ _ _ => qNc); (refine use_con (imul_con _ _ _ _ _ (by assumption) ⟨by assumption, by omega⟩) (by k_asm) (by k_asm) qFc qNc rfl (by walk_at "m_room") (by walk_at "m_room") trivial ?_); rintro qr qh' qtk' qF' qN' - ⟨qt', qe'⟩; subst qe'; (try dsimp only at qF'); k_sweep)) | (((with_reducible show wpAny _ _ (call (Value.ref 145) _) _ _ _); (with_reducible rename Fr _ _ _ _ => qFc); (with_reducible rename News _ _ _ _ => qNc); (first | (refine use_con (lines_S _ true 120 _ _ _ _ (by decide) (by decide)) (by k_asm) (by k_asm) qFc qNc rfl (by walk_at "m_room") (by walk_at "m_room") ⟨_, (by kmk_list), by assumption⟩ ?_) | (refine use_con (lines_S _ false _ _ _ _ _ (by assumption) (by assumption)) (by k_asm) (by k_asm) qFc qNc rfl (by walk_at "m_room") (by walk_at "m_room") ⟨_, (by kmk_list), by assumption⟩ ?_)); rintro qr qh' qtk' qF' qN' - ⟨qa', qvs', qn', qe', qhn', qhg', qhi'⟩; subst qe'; (have qNa' := news_add qFc qN' qhn' qhg'); (try dsimp only at qF'); k_sweep; clear qN')) | (((with_reducible show wpAny _ _ (call (Value.ref 138) _) _ _ _); (with_reducible rename Fr _ _ _ _ => qFc); (with_reducible rename News _ _ _ _ => qNc); (refine use_con (ports_S _ _ _ _ _ (by assumption)) (by k_asm) (by k_asm) qFc qNc rfl (by walk_at "m_room") (by walk_at "m_room") ⟨_, News.isList qNc (.head _), by assumption⟩ ?_); rintro qr qh' qtk' qF' qN' - ⟨qa', qvs', qn', qe', qhn', qhg', qhi'⟩; subst qe'; (have qNa' := news_add qFc qN' qhn' qhg'); (try dsimp only at qF'); k_sweep; clear qN')) | (((with_reducible show wpAny _ _ (call (Value.ref 131) _) _ _ _); (with_reducible rename Fr _ _ _ _ => qFc); (with_reducible rename News _ _ _ _ => qNc); (refine use_con (counts_S _ _ _) (by k_asm) (by k_asm) qFc qNc rfl (by walk_at "m_room") (by walk_at "m_room") ⟨_, News.isList qNc (.head _), by assumption⟩ ?_); rintro qr qh' qtk' qF' qN' - ⟨qa', qvs', qn', qe', qhn', qhg', qhi'⟩; subst qe'; (have qNa' := news_add qFc qN' qhn' qhg'); (try dsimp only at qF'); k_sweep; clear qN')) | (((with_reducible show wpAny _ _ (subscriptTail _ (Expr.Slice _ _ none _) (Value.ref _) (Value.ref _)) _ _ _); (with_reducible rename Fr _ _ _ _ => qFc); (with_reducible rename News _ _ _ _ => qNc); (rename 0 ≤ 2 + _ => qhc); (first | (refine law_upto qFc qNc (by kmk_list) (by assumption) qhc ?_ (by with_unfolding_all rfl) (by kmk_pure)) | (refine law_from qFc qNc (by kmk_list) (by assumption) qhc ?_ (by with_unfolding_all rfl) (by kmk_pure))); intro qD' qws' qh' qF' qN' qhz'; (try dsimp only at qF'); k_sweep)) | walk_at "m_calls")) | (((((walk_at "m_guard"; fail_if_success (with_reducible show wpAny _ _ (subscriptTail _ (Expr.Slice _ _ none _) (Value.ref _) (Value.ref _)) _ _ _))); fail_if_success (with_reducible show wpAny _ _ (exec (Stmt.Assign _ (Expr.ListComp _ _ _ _) _) _) _ _ _); fail_if_success (with_reducible show LCg.CompSrc _ _ _ _ _ _ _ _ _ _ _ _ _ _); fail_if_success (with_reducible refine goodW_bool ?_ ?_ ?_ ?_))); walk1) | (dsimp only; ((((walk_at "m_guard"; fail_if_success (with_reducible show wpAny _ _ (subscriptTail _ (Expr.Slice _ _ none _) (Value.ref _) (Value.ref _)) _ _ _))); fail_if_success (with_reducible show wpAny _ _ (exec (Stmt.Assign _ (Expr.ListComp _ _ _ _) _) _) _ _ _); fail_if_success (with_reducible show LCg.CompSrc _ _ _ _ _ _ _ _ _ _ _ _ _ _); fail_if_success (with_reducible refine goodW_bool ?_ ?_ ?_ ?_))); walk1)))
      refine cut_end (by k_asm) (by k_asm) ⟨_, congrArg (fun z => Value.str z _) (by rw [hIk, ln_ahead]; exact ahead_made ci hci n hn)⟩
    unfold LCg.FinA
    intro ys' hy' D h tk F N o1
    rename SzL _ _ => hq
    have hTx : TxL (ln true ci) ys' _ := ⟨hy', hq.2⟩
    dsimp only at F
    k_sweep
    (repeat' (first | (((((walk_at "m_guard"; fail_if_success (with_reducible show wpAny _ _ (subscriptTail _ (Expr.Slice _ _ none _) (Value.ref _) (Value.ref _)) _ _ _))); fail_if_success (with_reducible show wpAny _ _ (exec (Stmt.Assign _ (Expr.ListComp _ _ _ _) _) _) _ _ _); fail_if_success (with_reducible show LCg.CompSrc _ _ _ _ _ _ _ _ _ _ _ _ _ _); fail_if_success (with_reducible refine goodW_bool ?_ ?_ ?_ ?_))); k_unfold; (try dsimp only)) | ((first | (((with_reducible show wpAny _ _ (subscriptTail (Expr.Name _ _) (Expr.Name _ _) (Value.ref _) (Value.int _ _)) _ _ _); (refine law_item (by kmk_list) (by assumption) (by assumption) ?_ (by with_unfolding_all rfl)); intro qt')) | (((with_reducible show wpAny _ _ (call (Value.ref 121) _) _ _ _); (with_reducible rename Fr _ _ _ _ => qFc); (with_reducible rename News _ _ _ _ => qNc); (refine use_con (isub_con _ _ _ _ _) (by k_asm) (by k_asm) qFc qNc rfl (by walk_at "m_room") (by walk_at "m_room") trivial ?_); rintro qr qh' qtk' qF' qN' - ⟨qt', qe'⟩; subst qe'; (try dsimp only at qF'); k_sweep)) | (((with_reducible show wpAny _ _ (call (Value.ref 114) _) _ _ _); (with_reducible rename Fr _ _ _ _ => qFc); (with_reducible rename News _ _ _ _ => qNc); (refine use_con (imul_con _ _ _ _ _ (by assumption) ⟨by assumption, by omega⟩) (by k_asm) (by k_asm) qFc qNc rfl (by walk_at "m_room") (by walk_at "m_room") trivial ?_); rintro qr qh' qtk' qF' qN' - ⟨qt', qe'⟩; subst qe'; (try dsimp only at qF'); k_sweep)) | (((with_reducible show wpAny _ _ (call (Value.ref 145) _) _ _ _); (with_reducible rename Fr _ _ _ _ => qFc); (with_reducible rename News _ _ _ _ => qNc); (first | (refine use_con (lines_S _ true 120 _ _ _ _ (by decide) (by decide)) (by k_asm) (by k_asm) qFc qNc rfl (by walk_at "m_room") (by walk_at "m_room") ⟨_, (by kmk_list), by assumption⟩ ?_) | (refine use_con (lines_S _ false _ _ _ _ _ (by assumption) (by assumption)) (by k_asm) (by k_asm) qFc qNc rfl (by walk_at "m_room") (by walk_at "m_room") ⟨_, (by kmk_list), by assumption⟩ ?_)); rintro qr qh' qtk' qF' qN' - ⟨qa', qvs', qn', qe', qhn', qhg', qhi'⟩; subst qe'; (have qNa' := news_add qFc qN' qhn' qhg'); (try dsimp only at qF'); k_sweep; clear qN')) | (((with_reducible show wpAny _ _ (call (Value.ref 138) _) _ _ _); (with_reducible rename Fr _ _ _ _ => qFc); (with_reducible rename News _ _ _ _ => qNc); (refine use_con (ports_S _ _ _ _ _ (by assumption)) (by k_asm) (by k_asm) qFc qNc rfl (by walk_at "m_room") (by walk_at "m_room") ⟨_, News.isList qNc (.head _), by assumption⟩ ?_); rintro qr qh' qtk' qF' qN' - ⟨qa', qvs', qn', qe', qhn', qhg', qhi'⟩; subst qe'; (have qNa' := news_add qFc qN' qhn' qhg'); (try dsimp only at qF'); k_sweep; clear qN')) | (((with_reducible show wpAny _ _ (call (Value.ref 131) _) _ _ _); (with_reducible rename Fr _ _ _ _ => qFc); (with_reducible rename News _ _ _ _ => qNc); (refine use_con (counts_S _ _ _) (by k_asm) (by k_asm) qFc qNc rfl (by walk_at "m_room") (by walk_at "m_room") ⟨_, News.isList qNc (.head _), by assumption⟩ ?_); rintro qr qh' qtk' qF' qN' - ⟨qa', qvs', qn', qe', qhn', qhg', qhi'⟩; subst qe'; (have qNa' := news_add qFc qN' qhn' qhg'); (try dsimp only at qF'); k_sweep; clear qN')) | (((with_reducible show wpAny _ _ (subscriptTail _ (Expr.Slice _ _ none _) (Value.ref _) (Value.ref _)) _ _ _); (with_reducible rename Fr _ _ _ _ => qFc); (with_reducible rename News _ _ _ _ => qNc); (rename 0 ≤ 2 + _ => qhc); (first | (refine law_upto qFc qNc (by kmk_list) (by assumption) qhc ?_ (by with_unfolding_all rfl) (by kmk_pure)) | (refine law_from qFc qNc (by kmk_list) (by assumption) qhc ?_ (by with_unfolding_all rfl) (by kmk_pure))); intro qD' qws' qh' qF' qN' qhz'; (try dsimp only at qF'); k_sweep)) | walk_at "m_calls")) | (((((walk_at "m_guard"; fail_if_success (with_reducible show wpAny _ _ (subscriptTail _ (Expr.Slice _ _ none _) (Value.ref _) (Value.ref _)) _ _ _))); fail_if_success (with_reducible show wpAny _ _ (exec (Stmt.Assign _ (Expr.ListComp _ _ _ _) _) _) _ _ _); fail_if_success (with_reducible show LCg.CompSrc _ _ _ _ _ _ _ _ _ _ _ _ _ _); fail_if_success (with_reducible refine goodW_bool ?_ ?_ ?_ ?_))); walk1) | (dsimp only; ((((walk_at "m_guard"; fail_if_success (with_reducible show wpAny _ _ (subscriptTail _ (Expr.Slice _ _ none _) (Value.ref _) (Value.ref _)) _ _ _))); fail_if_success (with_reducible show wpAny _ _ (exec (Stmt.Assign _ (Expr.ListComp _ _ _ _) _) _) _ _ _); fail_if_success (with_reducible show LCg.CompSrc _ _ _ _ _ _ _ _ _ _ _ _ _ _); fail_if_success (with_reducible refine goodW_bool ?_ ?_ ?_ ?_))); walk1)))
    rename Fr _ _ _ _ => Fg
    refine For_invVF Fg (by exact rfl) (by exact rfl) ?_ (hE := PassesOwn.never)
    (repeat' (first | (((((walk_at "m_guard"; fail_if_success (with_reducible show wpAny _ _ (subscriptTail _ (Expr.Slice _ _ none _) (Value.ref _) (Value.ref _)) _ _ _))); fail_if_success (with_reducible show wpAny _ _ (exec (Stmt.Assign _ (Expr.ListComp _ _ _ _) _) _) _ _ _); fail_if_success (with_reducible show LCg.CompSrc _ _ _ _ _ _ _ _ _ _ _ _ _ _); fail_if_success (with_reducible refine goodW_bool ?_ ?_ ?_ ?_))); k_unfold; (try dsimp only)) | ((first | (((with_reducible show wpAny _ _ (subscriptTail (Expr.Name _ _) (Expr.Name _ _) (Value.ref _) (Value.int _ _)) _ _ _); (refine law_item (by kmk_list) (by assumption) (by assumption) ?_ (by with_unfolding_all rfl)); intro qt')) | (((with_reducible show wpAny _ _ (call (Value.ref 121) _) _ _ _); (with_reducible rename Fr _ _ _ _ => qFc); (with_reducible rename News _ _ _ _ => qNc); (refine use_con (isub_con _ _ _ _ _) (by k_asm) (by k_asm) qFc qNc rfl (by walk_at "m_room") (by walk_at "m_room") trivial ?_); rintro qr qh' qtk' qF' qN' - ⟨qt', qe'⟩; subst qe'; (try dsimp only at qF'); k_sweep)) | (((with_reducible show wpAny _ _ (call (Value.ref 114) _) _ _ _); (with_reducible rename Fr _ _ _ _ => qFc); (with_reducible rename News _ _ _ _ => qNc); (refine use_con (imul_con _ _ _ _ _ (by assumption) ⟨by assumption, by omega⟩) (by k_asm) (by k_asm) qFc qNc rfl (by walk_at "m_room") (by walk_at "m_room") trivial ?_); rintro qr qh' qtk' qF' qN' - ⟨qt', qe'⟩; subst qe'; (try dsimp only at qF'); k_sweep)) | (((with_reducible show wpAny _ _ (call (Value.ref 145) _) _ _ _); (with_reducible rename Fr _ _ _ _ => qFc); (with_reducible rename News _ _ _ _ => qNc); (first | (refine use_con (lines_S _ true 120 _ _ _ _ (by decide) (by decide)) (by k_asm) (by k_asm) qFc qNc rfl (by walk_at "m_room") (by walk_at "m_room") ⟨_, (by kmk_list), by assumption⟩ ?_) | (refine use_con (lines_S _ false _ _ _ _ _ (by assumption) (by assumption)) (by k_asm) (by k_asm) qFc qNc rfl (by walk_at "m_room") (by walk_at "m_room") ⟨_, (by kmk_list), by assumption⟩ ?_)); rintro qr qh' qtk' qF' qN' - ⟨qa', qvs', qn', qe', qhn', qhg', qhi'⟩; subst qe'; (have qNa' := news_add qFc qN' qhn' qhg'); (try dsimp only at qF'); k_sweep; clear qN')) | (((with_reducible show wpAny _ _ (call (Value.ref 138) _) _ _ _); (with_reducible rename Fr _ _ _ _ => qFc); (with_reducible rename News _ _ _ _ => qNc); (refine use_con (ports_S _ _ _ _ _ (by assumption)) (by k_asm) (by k_asm) qFc qNc rfl (by walk_at "m_room") (by walk_at "m_room") ⟨_, News.isList qNc (.head _), by assumption⟩ ?_); rintro qr qh' qtk' qF' qN' - ⟨qa', qvs', qn', qe', qhn', qhg', qhi'⟩; subst qe'; (have qNa' := news_add qFc qN' qhn' qhg'); (try dsimp only at qF'); k_sweep; clear qN')) | (((with_reducible show wpAny _ _ (call (Value.ref 131) _) _ _ _); (with_reducible rename Fr _ _ _ _ => qFc); (with_reducible rename News _ _ _ _ => qNc); (refine use_con (counts_S _ _ _) (by k_asm) (by k_asm) qFc qNc rfl (by walk_at "m_room") (by walk_at "m_room") ⟨_, News.isList qNc (.head _), by assumption⟩ ?_); rintro qr qh' qtk' qF' qN' - ⟨qa', qvs', qn', qe', qhn', qhg', qhi'⟩; subst qe'; (have qNa' := news_add qFc qN' qhn' qhg'); (try dsimp only at qF'); k_sweep; clear qN')) | (((with_reducible show wpAny _ _ (subscriptTail _ (Expr.Slice _ _ none _) (Value.ref _) (Value.ref _)) _ _ _); (with_reducible rename Fr _ _ _ _ => qFc); (with_reducible rename News _ _ _ _ => qNc); (rename 0 ≤ 2 + _ => qhc); (first | (refine law_upto qFc qNc (by kmk_list) (by assumption) qhc ?_ (by with_unfolding_all rfl) (by kmk_pure)) | (refine law_from qFc qNc (by kmk_list) (by assumption) qhc ?_ (by with_unfolding_all rfl) (by kmk_pure))); intro qD' qws' qh' qF' qN' qhz'; (try dsimp only at qF'); k_sweep)) | walk_at "m_calls")) | (((((walk_at "m_guard"; fail_if_success (with_reducible show wpAny _ _ (subscriptTail _ (Expr.Slice _ _ none _) (Value.ref _) (Value.ref _)) _ _ _))); fail_if_success (with_reducible show wpAny _ _ (exec (Stmt.Assign _ (Expr.ListComp _ _ _ _) _) _) _ _ _); fail_if_success (with_reducible show LCg.CompSrc _ _ _ _ _ _ _ _ _ _ _ _ _ _); fail_if_success (with_reducible refine goodW_bool ?_ ?_ ?_ ?_))); walk1) | (dsimp only; ((((walk_at "m_guard"; fail_if_success (with_reducible show wpAny _ _ (subscriptTail _ (Expr.Slice _ _ none _) (Value.ref _) (Value.ref _)) _ _ _))); fail_if_success (with_reducible show wpAny _ _ (exec (Stmt.Assign _ (Expr.ListComp _ _ _ _) _) _) _ _ _); fail_if_success (with_reducible show LCg.CompSrc _ _ _ _ _ _ _ _ _ _ _ _ _ _); fail_if_success (with_reducible refine goodW_bool ?_ ?_ ?_ ?_))); walk1)))
    rename IsRange _ _ _ _ _ _ _ _ => R5
    rename Fr _ _ _ _ => F5
    rename News _ _ _ _ => N5
    refine m_range0 5 (fun _ => _) (fun z : Int × Tok => [(Str.ofString "due", .int z.1 z.2)]) [Str.ofString "step"] (fun i z => z.1 = dueAt S ((xs.sum.fdiv 16).fmod 3) (xs.sum.fmod 4) i) (2 * ((xs.sum.fdiv 16).fmod 3) * (2 + xs.sum.fmod 4) * (2 + xs.sum.fmod 4) * (7 - (2 + xs.sum.fmod 4)) * (7 - (2 + xs.sum.fmod 4)), ?t0) rfl R5 rfl (by omega) F5 N5 (by kst_all) (dueAt_zero ..) ?turn5 ?done5
    case done5 =>
      rintro ⟨du, td⟩ u h tk hP F N
      k_sweep
      try dsimp only at hP F N ⊢
      (repeat' (first | (((((walk_at "m_guard"; fail_if_success (with_reducible show wpAny _ _ (subscriptTail _ (Expr.Slice _ _ none _) (Value.ref _) (Value.ref _)) _ _ _))); fail_if_success (with_reducible show wpAny _ _ (exec (Stmt.Assign _ (Expr.ListComp _ _ _ _) _) _) _ _ _); fail_if_success (with_reducible show LCg.CompSrc _ _ _ _ _ _ _ _ _ _ _ _ _ _); fail_if_success (with_reducible refine goodW_bool ?_ ?_ ?_ ?_))); k_unfold; (try dsimp only)) | ((first | (((with_reducible show wpAny _ _ (subscriptTail (Expr.Name _ _) (Expr.Name _ _) (Value.ref _) (Value.int _ _)) _ _ _); (refine law_item (by kmk_list) (by assumption) (by assumption) ?_ (by with_unfolding_all rfl)); intro qt')) | (((with_reducible show wpAny _ _ (call (Value.ref 121) _) _ _ _); (with_reducible rename Fr _ _ _ _ => qFc); (with_reducible rename News _ _ _ _ => qNc); (refine use_con (isub_con _ _ _ _ _) (by k_asm) (by k_asm) qFc qNc rfl (by walk_at "m_room") (by walk_at "m_room") trivial ?_); rintro qr qh' qtk' qF' qN' - ⟨qt', qe'⟩; subst qe'; (try dsimp only at qF'); k_sweep)) | (((with_reducible show wpAny _ _ (call (Value.ref 114) _) _ _ _); (with_reducible rename Fr _ _ _ _ => qFc); (with_reducible rename News _ _ _ _ => qNc); (refine use_con (imul_con _ _ _ _ _ (by assumption) ⟨by assumption, by omega⟩) (by k_asm) (by k_asm) qFc qNc rfl (by walk_at "m_room") (by walk_at "m_room") trivial ?_); rintro qr qh' qtk' qF' qN' - ⟨qt', qe'⟩; subst qe'; (try dsimp only at qF'); k_sweep)) | (((with_reducible show wpAny _ _ (call (Value.ref 145) _) _ _ _); (with_reducible rename Fr _ _ _ _ => qFc); (with_reducible rename News _ _ _ _ => qNc); (first | (refine use_con (lines_S _ true 120 _ _ _ _ (by decide) (by decide)) (by k_asm) (by k_asm) qFc qNc rfl (by walk_at "m_room") (by walk_at "m_room") ⟨_, (by kmk_list), by assumption⟩ ?_) | (refine use_con (lines_S _ false _ _ _ _ _ (by assumption) (by assumption)) (by k_asm) (by k_asm) qFc qNc rfl (by walk_at "m_room") (by walk_at "m_room") ⟨_, (by kmk_list), by assumption⟩ ?_)); rintro qr qh' qtk' qF' qN' - ⟨qa', qvs', qn', qe', qhn', qhg', qhi'⟩; subst qe'; (have qNa' := news_add qFc qN' qhn' qhg'); (try dsimp only at qF'); k_sweep; clear qN')) | (((with_reducible show wpAny _ _ (call (Value.ref 138) _) _ _ _); (with_reducible rename Fr _ _ _ _ => qFc); (with_reducible rename News _ _ _ _ => qNc); (refine use_con (ports_S _ _ _ _ _ (by assumption)) (by k_asm) (by k_asm) qFc qNc rfl (by walk_at "m_room") (by walk_at "m_room") ⟨_, News.isList qNc (.head _), by assumption⟩ ?_); rintro qr qh' qtk' qF' qN' - ⟨qa', qvs', qn', qe', qhn', qhg', qhi'⟩; subst qe'; (have qNa' := news_add qFc qN' qhn' qhg'); (try dsimp only at qF'); k_sweep; clear qN')) | (((with_reducible show wpAny _ _ (call (Value.ref 131) _) _ _ _); (with_reducible rename Fr _ _ _ _ => qFc); (with_reducible rename News _ _ _ _ => qNc); (refine use_con (counts_S _ _ _) (by k_asm) (by k_asm) qFc qNc rfl (by walk_at "m_room") (by walk_at "m_room") ⟨_, News.isList qNc (.head _), by assumption⟩ ?_); rintro qr qh' qtk' qF' qN' - ⟨qa', qvs', qn', qe', qhn', qhg', qhi'⟩; subst qe'; (have qNa' := news_add qFc qN' qhn' qhg'); (try dsimp only at qF'); k_sweep; clear qN')) | (((with_reducible show wpAny _ _ (subscriptTail _ (Expr.Slice _ _ none _) (Value.ref _) (Value.ref _)) _ _ _); (with_reducible rename Fr _ _ _ _ => qFc); (with_reducible rename News _ _ _ _ => qNc); (rename 0 ≤ 2 + _ => qhc); (first | (refine law_upto qFc qNc (by kmk_list) (by assumption) qhc ?_ (by with_unfolding_all rfl) (by kmk_pure)) | (refine law_from qFc qNc (by kmk_list) (by assumption) qhc ?_ (by with_unfolding_all rfl) (by kmk_pure))); intro qD' qws' qh' qF' qN' qhz'; (try dsimp only at qF'); k_sweep)) | walk_at "m_calls")) | (((((walk_at "m_guard"; fail_if_success (with_reducible show wpAny _ _ (subscriptTail _ (Expr.Slice _ _ none _) (Value.ref _) (Value.ref _)) _ _ _))); fail_if_success (with_reducible show wpAny _ _ (exec (Stmt.Assign _ (Expr.ListComp _ _ _ _) _) _) _ _ _); fail_if_success (with_reducible show LCg.CompSrc _ _ _ _ _ _ _ _ _ _ _ _ _ _); fail_if_success (with_reducible refine goodW_bool ?_ ?_ ?_ ?_))); walk1) | (dsimp only; ((((walk_at "m_guard"; fail_if_success (with_reducible show wpAny _ _ (subscriptTail _ (Expr.Slice _ _ none _) (Value.ref _) (Value.ref _)) _ _ _))); fail_if_success (with_reducible show wpAny _ _ (exec (Stmt.Assign _ (Expr.ListComp _ _ _ _) _) _) _ _ _); fail_if_success (with_reducible show LCg.CompSrc _ _ _ _ _ _ _ _ _ _ _ _ _ _); fail_if_success (with_reducible refine goodW_bool ?_ ?_ ?_ ?_))); walk1)))
      refine goodW_bool (by with_reducible assumption) (by with_reducible assumption) (raisesW_false ?_) ?_
      · wrow_none_raised
      · refine postW_of (by wrow_shape) (w_eq_bool (w_res rfl) w_lit) ?_
        rw [law_due S hS7 hS6 ((xs.sum.fdiv 16).fmod 3) (xs.sum.fmod 4) hT0 hT4 ci hPr, hP]
        simp
    rintro ⟨du, td⟩ k tt u h tk own hk hoff hP F N
    k_sweep
    try dsimp only at hP F N ⊢
    simp only [List.cons_append, List.nil_append] at N
    have hM := stp_fits S (xs.sum.fmod 4) k hS7 hT0 hT4
    have hC1 := cnt_seven (S.take (2 + xs.sum.fmod 4).toNat) k (by rw [List.length_take]; omega)
    have hC2 := cnt_seven (S.drop (2 + xs.sum.fmod 4).toNat) k (by rw [List.length_drop]; omega)
    (repeat' (first | (((((walk_at "m_guard"; fail_if_success (with_reducible show wpAny _ _ (subscriptTail _ (Expr.Slice _ _ none _) (Value.ref _) (Value.ref _)) _ _ _))); fail_if_success (with_reducible show wpAny _ _ (exec (Stmt.Assign _ (Expr.ListComp _ _ _ _) _) _) _ _ _); fail_if_success (with_reducible show LCg.CompSrc _ _ _ _ _ _ _ _ _ _ _ _ _ _); fail_if_success (with_reducible refine goodW_bool ?_ ?_ ?_ ?_))); k_unfold; (try dsimp only)) | ((first | (((with_reducible show wpAny _ _ (subscriptTail (Expr.Name _ _) (Expr.Name _ _) (Value.ref _) (Value.int _ _)) _ _ _); (refine law_item (by kmk_list) (by assumption) (by assumption) ?_ (by with_unfolding_all rfl)); intro qt')) | (((with_reducible show wpAny _ _ (call (Value.ref 121) _) _ _ _); (with_reducible rename Fr _ _ _ _ => qFc); (with_reducible rename News _ _ _ _ => qNc); (refine use_con (isub_con _ _ _ _ _) (by k_asm) (by k_asm) qFc qNc rfl (by walk_at "m_room") (by walk_at "m_room") trivial ?_); rintro qr qh' qtk' qF' qN' - ⟨qt', qe'⟩; subst qe'; (try dsimp only at qF'); k_sweep)) | (((with_reducible show wpAny _ _ (call (Value.ref 114) _) _ _ _); (with_reducible rename Fr _ _ _ _ => qFc); (with_reducible rename News _ _ _ _ => qNc); (refine use_con (imul_con _ _ _ _ _ (by assumption) ⟨by assumption, by omega⟩) (by k_asm) (by k_asm) qFc qNc rfl (by walk_at "m_room") (by walk_at "m_room") trivial ?_); rintro qr qh' qtk' qF' qN' - ⟨qt', qe'⟩; subst qe'; (try dsimp only at qF'); k_sweep)) | (((with_reducible show wpAny _ _ (call (Value.ref 145) _) _ _ _); (with_reducible rename Fr _ _ _ _ => qFc); (with_reducible rename News _ _ _ _ => qNc); (first | (refine use_con (lines_S _ true 120 _ _ _ _ (by decide) (by decide)) (by k_asm) (by k_asm) qFc qNc rfl (by walk_at "m_room") (by walk_at "m_room") ⟨_, (by kmk_list), by assumption⟩ ?_) | (refine use_con (lines_S _ false _ _ _ _ _ (by assumption) (by assumption)) (by k_asm) (by k_asm) qFc qNc rfl (by walk_at "m_room") (by walk_at "m_room") ⟨_, (by kmk_list), by assumption⟩ ?_)); rintro qr qh' qtk' qF' qN' - ⟨qa', qvs', qn', qe', qhn', qhg', qhi'⟩; subst qe'; (have qNa' := news_add qFc qN' qhn' qhg'); (try dsimp only at qF'); k_sweep; clear qN')) | (((with_reducible show wpAny _ _ (call (Value.ref 138) _) _ _ _); (with_reducible rename Fr _ _ _ _ => qFc); (with_reducible rename News _ _ _ _ => qNc); (refine use_con (ports_S _ _ _ _ _ (by assumption)) (by k_asm) (by k_asm) qFc qNc rfl (by walk_at "m_room") (by walk_at "m_room") ⟨_, News.isList qNc (.head _), by assumption⟩ ?_); rintro qr qh' qtk' qF' qN' - ⟨qa', qvs', qn', qe', qhn', qhg', qhi'⟩; subst qe'; (have qNa' := news_add qFc qN' qhn' qhg'); (try dsimp only at qF'); k_sweep; clear qN')) | (((with_reducible show wpAny _ _ (call (Value.ref 131) _) _ _ _); (with_reducible rename Fr _ _ _ _ => qFc); (with_reducible rename News _ _ _ _ => qNc); (refine use_con (counts_S _ _ _) (by k_asm) (by k_asm) qFc qNc rfl (by walk_at "m_room") (by walk_at "m_room") ⟨_, News.isList qNc (.head _), by assumption⟩ ?_); rintro qr qh' qtk' qF' qN' - ⟨qa', qvs', qn', qe', qhn', qhg', qhi'⟩; subst qe'; (have qNa' := news_add qFc qN' qhn' qhg'); (try dsimp only at qF'); k_sweep; clear qN')) | (((with_reducible show wpAny _ _ (subscriptTail _ (Expr.Slice _ _ none _) (Value.ref _) (Value.ref _)) _ _ _); (with_reducible rename Fr _ _ _ _ => qFc); (with_reducible rename News _ _ _ _ => qNc); (rename 0 ≤ 2 + _ => qhc); (first | (refine law_upto qFc qNc (by kmk_list) (by assumption) qhc ?_ (by with_unfolding_all rfl) (by kmk_pure)) | (refine law_from qFc qNc (by kmk_list) (by assumption) qhc ?_ (by with_unfolding_all rfl) (by kmk_pure))); intro qD' qws' qh' qF' qN' qhz'; (try dsimp only at qF'); k_sweep)) | walk_at "m_calls")) | (((((walk_at "m_guard"; fail_if_success (with_reducible show wpAny _ _ (subscriptTail _ (Expr.Slice _ _ none _) (Value.ref _) (Value.ref _)) _ _ _))); fail_if_success (with_reducible show wpAny _ _ (exec (Stmt.Assign _ (Expr.ListComp _ _ _ _) _) _) _ _ _); fail_if_success (with_reducible show LCg.CompSrc _ _ _ _ _ _ _ _ _ _ _ _ _ _); fail_if_success (with_reducible refine goodW_bool ?_ ?_ ?_ ?_))); walk1) | (dsimp only; ((((walk_at "m_guard"; fail_if_success (with_reducible show wpAny _ _ (subscriptTail _ (Expr.Slice _ _ none _) (Value.ref _) (Value.ref _)) _ _ _))); fail_if_success (with_reducible show wpAny _ _ (exec (Stmt.Assign _ (Expr.ListComp _ _ _ _) _) _) _ _ _); fail_if_success (with_reducible show LCg.CompSrc _ _ _ _ _ _ _ _ _ _ _ _ _ _); fail_if_success (with_reducible refine goodW_bool ?_ ?_ ?_ ?_))); walk1)))
    refine mst_end (_, _) (by k_asm) (by k_asm) (fun p hp => List.mem_append.mpr (.inl hp)) (fun p hp => List.mem_append.mpr (.inr hp)) rfl (by kst_all) (by walk_at "m_same") ?_
    dsimp only
    rw [dueAt_succ, hP]
    rfl))
end Mine
theorem PySem.Challenge.cw_wu0037_01_holds : PySem.Challenge.rw_wu0037_01.Holds :=
  Mine.law_walk
