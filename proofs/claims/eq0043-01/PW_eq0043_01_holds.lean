import PyProof.Rows.All
import Wide.All
import OpenK.AllK
import Wide.FinOn
import PySem.Challenge.RW_eq0043_01
open PySem PySem.W PySem.Calls PySem.Spec PyProof.Rows
open PySem PySem.W PySem.Calls PySem.Spec PyProof.Rows
set_option Elab.async false
set_option maxRecDepth 100000
set_option maxHeartbeats 8000000
set_option linter.unusedVariables false
set_option linter.unusedSimpArgs false
-- part HD
namespace Mine
open_top hd for PySem.Challenge.rw_eq0043_01
end Mine
-- part M0
namespace Mine

abbrev PR : Program := PySem.Challenge.rw_eq0043_01.row.prog
abbrev Keep (h h' : Heap) : Prop := ∀ (b : Addr) (o : Obj), h.get? b = some o → h'.get? b = some o

/-- the base: the top's objects, at the heap g -/
structure Gd (w : World) (mg mb : Str → Option Value) (p : Program) (loose : List Str) (g : Heap) : Prop where
  X : (hd.heap_39 w.params).In g
  T : TopRead p loose mg mb g
theorem Gd.keeps {w : World} {mg mb : Str → Option Value} {p : Program} {loose : List Str} {g g' : Heap} (G : Gd w mg mb p loose g) (k : Keep g g') : Gd w mg mb p loose g' := ⟨G.X.keeps k, G.T.keeps k⟩

abbrev cellD (hs : Int) (tk tn : Tok) (n : Int) : Obj := dictOf [⟨hs, .str (PySem.Str.ofString "_CellId__id") tk, .int n tn⟩] 1
/-- a CellId at x: its number n; none of it in g -/
structure Cell (g h : Heap) (x dx : Addr) (hs : Int) (tk tn : Tok) (n : Int) : Prop where
  ox : h.get? x = some (instObj 425 dx)
  od : h.get? dx = some (cellD hs tk tn n)
  gx : g.get? x = none
  gd : g.get? dx = none
theorem Cell.keeps {g h h' : Heap} {x dx : Addr} {hs : Int} {tk tn : Tok} {n : Int} (c : Cell g h x dx hs tk tn n) (k : Keep h h') : Cell g h' x dx hs tk tn n := ⟨k _ _ c.ox, k _ _ c.od, c.gx, c.gd⟩
def IsCell (g h : Heap) (x : Addr) (n : Int) : Prop := ∃ dx hs tk tn, Cell g h x dx hs tk tn n
theorem IsCell.keeps {g h h' : Heap} {x : Addr} {n : Int} (c : IsCell g h x n) (k : Keep h h') : IsCell g h' x n :=
  let ⟨dx, hs, tk, tn, c⟩ := c; ⟨dx, hs, tk, tn, c.keeps k⟩
theorem isCell_of {h₀ h : Heap} {L x dx : Addr} {hs : Int} {tk tn : Tok} {n : Int} {news : List (Addr × Obj)} (N : News h₀ L h news) (h1 : (x, instObj 425 dx) ∈ news) (h2 : (dx, cellD hs tk tn n) ∈ news) : IsCell h₀ h x n :=
  ⟨dx, hs, tk, tn, (N _ h1).1, (N _ h2).1, (N _ h1).2.2, (N _ h2).2.2⟩
theorem IsCell.deep {g g' h : Heap} {x : Addr} {n : Int} (c : IsCell g h x n) (k : Keep g' g) : IsCell g' h x n := by
  have nn : ∀ b, g.get? b = none → g'.get? b = none := fun b e => by
    cases q : g'.get? b with
    | none => rfl
    | some o => rw [k _ _ q] at e; cases e
  obtain ⟨dx, hs, tk, tn, c⟩ := c
  exact ⟨dx, hs, tk, tn, c.ox, c.od, nn _ c.gx, nn _ c.gd⟩

/-- a call that gives back a value -/
def Ret (Q : Value → Shared → Prop) (r : Result) (s' : Shared) : Prop := match r with
  | .ok (.ret v) => Q v s'
  | _ => False
/-- how a def's body ends -/
def EndK (g : Heap) (L : Addr) (olds : List (Addr × Obj)) (h0 : Heap) (Q : Value → Shared → Prop) (v : Value) (s' : Shared) : Prop :=
  ∃ m' news', Fr g L s'.heap m' ∧ News g L s'.heap news' ∧ (∀ p ∈ olds, p ∈ news') ∧ (Keep h0 s'.heap → (∀ q ∈ news', q ∈ olds ∨ h0.get? q.1 = none) → Q v s')

theorem enter {w : World} {A : Around} {s : Shared} {g : Heap} {mg mb : Str → Option Value} {p : Program} {loose : List Str} {olds : List (Addr × Obj)}
    {Q : Value → Shared → Prop} {name qual : Str} {params : Arguments} {body : List Stmt} {scope : Scope} {dV kV doc pm cdv ct oc : Value} {an od : Option Addr} {osl : Array (Option Value)} {f : Addr} {args : List Value} {kw : List (Str × Value)} {binds : List (Str × Value)}
    (G : Gd w mg mb p loose g) (hg : Keep g s.heap) (ho : ∀ q ∈ olds, s.heap.get? q.1 = some q.2 ∧ g.get? q.1 = none)
    (hl : (hd.heap_39 w.params).lookup f = some ⟨oc, od, .func (fnOf name qual params body scope dV kV doc pm an cdv ct), osl⟩) (hcd : codeIn (hd.heap_39 w.params) cdv qual = true) (hroom : A.depth < recursionLimit)
    (hbind : BindsTo s (fnOf name qual params body scope dV kV doc pm an cdv ct) ⟨args, kw⟩ binds) (hloc : ∀ y ∈ binds, scope.names.lookup y.1 = some .local)
    (h : ∀ g' L' h₁, Fr g' L' h₁ (fun y => binds.reverse.lookup y) → News g' L' h₁ olds → Gd w mg mb p loose g' → Keep g g' →
      wpAny (model PR w) (A.deeper (envOf qual scope L' f cdv)) (execs body (envOf qual scope L' f cdv))
        (fun fl s' => EndK g' L' olds s.heap Q (match fl with | .ret v => v | _ => .none) s') (fun _ _ => False)
        { s with heap := h₁, toks := s.toks + binds.length })
    (hco : scope.isCoroutine = false) (hgen : scope.isGenerator = false) (hk : scope.kind = .function)
    (hcell : ∀ x ∈ scope.names, x.2 ≠ .cell) : codeAny (model PR w) A (.call (.ref f) ⟨args, kw⟩) (Ret Q) s := by
  have Xs := G.X.keeps hg
  refine (codeAny_call_def (fd := fnOf name qual params body scope dV kV doc pm an cdv ct) (body := body) (binds := binds) hroom (Xs _ _ hl) rfl (G.T.nolimit.keeps hg) (codeRec_of Xs hcd) rfl hbind hcell hloc (fun h₁ hns hk₁ => ?_) hco hgen hk)
  have nm : ∀ b o, g.get? b = some o → b ∉ olds.map (·.1) := fun b o e q => by
    obtain ⟨p, hp, rfl⟩ := List.mem_map.mp q
    rw [(ho p hp).2] at e; cases e
  have st : Keep g (hideAll s.heap (olds.map (·.1))) := fun b o e => hideAll_get _ (hg b o e) (nm b o e)
  refine wpAny_mono (h (hideAll s.heap (olds.map (·.1))) s.heap.objs.size h₁ ⟨hns, fun b o e => hk₁ b o (of_hideAll _ e), Nat.le_of_eq (hideAll_size _ _)⟩
    (fun p hp => ⟨hk₁ _ _ (ho p hp).1, Nat.ne_of_lt (Heap.lt_size (ho p hp).1), hideAll_none _ (List.mem_map_of_mem hp)⟩) (G.keeps st) st) (fun fl s' hl => ?_) (fun _ _ y => y.elim)
  obtain ⟨m', news', F', N', hs, k⟩ := hl
  refine k (fun b o e => ?_) (fun q hq => ?_)
  · by_cases hb : b ∈ olds.map (·.1)
    · obtain ⟨q, hq, rfl⟩ := List.mem_map.mp hb
      have := (ho q hq).1
      rw [e] at this; cases this
      exact (N' q (hs q hq)).1
    · exact F'.keep b o (hideAll_get _ e hb)
  · by_cases hb : q.1 ∈ olds.map (·.1)
    · left
      obtain ⟨r, hr, e⟩ := List.mem_map.mp hb
      have h1 := (N' q hq).1
      have h2 := (N' r (hs r hr)).1
      rw [e, h1] at h2
      cases r; cases q
      cases e; cases h2
      exact hr
    · right
      cases e : s.heap.get? q.1 with
      | none => rfl
      | some o =>
        have := (N' q hq).2.2
        rw [hideAll_get _ e hb] at this; cases this

theorem endK_ {g : Heap} {L : Addr} {olds : List (Addr × Obj)} {h0 : Heap} {Q : Value → Shared → Prop} {v : Value} {s' : Shared} {m' : Str → Option Value} {news' : List (Addr × Obj)} (F : Fr g L s'.heap m') (N : News g L s'.heap news') (hs : ∀ p ∈ olds, p ∈ news')
    (k : Keep h0 s'.heap → (∀ q ∈ news', q ∈ olds ∨ h0.get? q.1 = none) → Q v s') : EndK g L olds h0 Q v s' := ⟨m', news', F, N, hs, k⟩

theorem olds0 {h g : Heap} : ∀ q ∈ ([] : List (Addr × Obj)), h.get? q.1 = some q.2 ∧ g.get? q.1 = none := fun _ h => nomatch h
theorem olds1 {g h : Heap} {x dx : Addr} {hs : Int} {tk tn : Tok} {n : Int} (c : Cell g h x dx hs tk tn n) : ∀ q ∈ [(x, instObj 425 dx), (dx, cellD hs tk tn n)], h.get? q.1 = some q.2 ∧ g.get? q.1 = none := by
  intro q hq
  simp only [List.mem_cons, List.not_mem_nil, or_false] at hq
  rcases hq with rfl | rfl
  · exact ⟨c.ox, c.gx⟩
  · exact ⟨c.od, c.gd⟩
theorem olds2 {g h : Heap} {x dx : Addr} {hs : Int} {tk tn : Tok} {n : Int} {x' dx' : Addr} {hs' : Int} {tk' tn' : Tok} {n' : Int} (c : Cell g h x dx hs tk tn n) (c' : Cell g h x' dx' hs' tk' tn' n') :
    ∀ q ∈ [(x, instObj 425 dx), (dx, cellD hs tk tn n), (x', instObj 425 dx'), (dx', cellD hs' tk' tn' n')], h.get? q.1 = some q.2 ∧ g.get? q.1 = none := by
  intro q hq
  rcases List.mem_cons.mp hq with rfl | hq
  · exact ⟨c.ox, c.gx⟩
  rcases List.mem_cons.mp hq with rfl | hq
  · exact ⟨c.od, c.gd⟩
  exact olds1 c' q hq

/-- a contract: the call of f upon vs -/
def Ct (w : World) (d : Nat) (f : Addr) (vs : List Value) (Pre : Heap → Heap → Prop) (Post : Heap → Heap → Value → Prop) : Prop :=
  ∀ (A : Around) (s : Shared) (g : Heap) (mg mb : Str → Option Value) (p : Program) (loose : List Str) (Q : Value → Shared → Prop),
    Gd w mg mb p loose g → Keep g s.heap → Pre g s.heap → A.depth + d < recursionLimit → A.units + 5 * d < cLine →
    (∀ v h' tk', Keep s.heap h' → Post s.heap h' v → Q v { s with heap := h', toks := tk' }) → codeAny (model PR w) A (.call (.ref f) ⟨vs, []⟩) (Ret Q) s
theorem ret_call {M : Model} {A : Around} {f : Value} {vs : List Value} {Q : Value → Shared → Prop} {E : Value → Shared → Prop} {s : Shared} (h : codeAny M A (.call f ⟨vs, []⟩) (Ret Q) s) : wpAny M A (call f vs) Q E s :=
  wpAny_call (codeAny_mono h fun r s' q => by
    cases r with
    | ok fl => cases fl <;> first | exact q | exact (show False from q).elim
    | error e => exact (show False from q).elim)
theorem ret_meth {prog : Program} {w : World} {A : Around} {f : Value} {h₀ : Heap} {L : Addr} {news : List (Addr × Obj)} {q : Addr} {self : Value} {vs : List Value} {Q : Value → Shared → Prop} {E : Value → Shared → Prop} {s : Shared} (N : News h₀ L s.heap news) (hq : (q, methodObj f self) ∈ news)
    (h : codeAny (model prog w) A (.call f ⟨self :: vs, []⟩) (Ret Q) s) : wpAny (model prog w) A (call (.ref q) vs) Q E s :=
  wpAny_call (method_call (N _ hq).1 (codeAny_mono h fun r s' q => by
    cases r with
    | ok fl => cases fl <;> first | exact q | exact (show False from q).elim
    | error e => exact (show False from q).elim))

section
variable {w : World} {A : Around} {s : Shared} {h₀ : Heap} {L : Addr} {m : Str → Option Value} {news : List (Addr × Obj)} {mg mb : Str → Option Value} {p : Program} {loose : List Str} {Q : Value → Shared → Prop} {E : Value → Shared → Prop} {d : Nat} {f : Addr} {vs : List Value} {Pre : Heap → Heap → Prop}

/-- the calls that a contract of f serves: f itself, or a bound method of it -/
inductive Calls' (M : Model) (A : Around) (f : Addr) (vs : List Value) (s : Shared) (E : Value → Shared → Prop) (t : Sem Value) : Prop where
  | mk (h : ∀ Q : Value → Shared → Prop, codeAny M A (.call (.ref f) ⟨vs, []⟩) (Ret Q) s → wpAny M A t Q E s)
theorem calls_fn {M : Model} : Calls' M A f vs s E (call (.ref f) vs) := ⟨fun _ h => ret_call h⟩
theorem calls_meth {prog : Program} {w : World} {q : Addr} {self : Value} (N : News h₀ L s.heap news) (hq : (q, methodObj (.ref f) self) ∈ news) : Calls' (model prog w) A f (self :: vs) s E (call (.ref q) vs) := ⟨fun _ h => ret_meth N hq h⟩
theorem calls_of {M : Model} {g : Value} {vs' : List Value} (e : g = .ref f) (e' : vs' = vs) : Calls' M A f vs s E (call g vs') := by
  subst e; subst e'; exact calls_fn
theorem calls_meth' {prog : Program} {w : World} {q : Addr} {self g : Value} {vs' : List Value} (hq : (q, methodObj (.ref f) self) ∈ news) (N : News h₀ L s.heap news) (e : g = .ref q) (e' : self :: vs' = vs) : Calls' (model prog w) A f vs s E (call g vs') := by
  subst e; subst e'; exact calls_meth N hq
theorem use_int {r : Int} {t : Sem Value} (c : Calls' (model PR w) A f vs s E t) (C : Ct w d f vs Pre (fun _ _ v => ∃ tk, v = .int r tk)) (F : Fr h₀ L s.heap m) (X : (hd.heap_39 w.params).In h₀) (N : News h₀ L s.heap news) (T : TopRead p loose mg mb h₀) (hp : Pre h₀ s.heap) (hA : A.depth + d < recursionLimit) (hu : A.units + 5 * d < cLine)
    (h : ∀ tk h' tk', Fr h₀ L h' m → News h₀ L h' news → Q (.int r tk) { s with heap := h', toks := tk' }) : wpAny (model PR w) A t Q E s :=
  c.1 Q <| C A s h₀ mg mb p loose Q ⟨X, T⟩ F.keep hp hA hu fun v h' tk' k ⟨tk, e⟩ => by subst e; exact h tk h' tk' (F.keeps k) (N.grown k)
theorem use_bool {r : Bool} {t : Sem Value} (c : Calls' (model PR w) A f vs s E t) (C : Ct w d f vs Pre (fun _ _ v => v = .bool r)) (F : Fr h₀ L s.heap m) (X : (hd.heap_39 w.params).In h₀) (N : News h₀ L s.heap news) (T : TopRead p loose mg mb h₀) (hp : Pre h₀ s.heap) (hA : A.depth + d < recursionLimit) (hu : A.units + 5 * d < cLine)
    (h : ∀ h' tk', Fr h₀ L h' m → News h₀ L h' news → Q (.bool r) { s with heap := h', toks := tk' }) : wpAny (model PR w) A t Q E s :=
  c.1 Q <| C A s h₀ mg mb p loose Q ⟨X, T⟩ F.keep hp hA hu fun v h' tk' k e => by subst e; exact h h' tk' (F.keeps k) (N.grown k)
def NewC (h h' : Heap) (v : Value) (n : Int) : Prop := ∃ y, v = .ref y ∧ IsCell h h' y n
theorem news_cell {h h' : Heap} {y dy : Addr} {hs : Int} {tk tn : Tok} {n : Int} (F : Fr h₀ L h m) (N : News h₀ L h news) (k : Keep h h') (c : Cell h h' y dy hs tk tn n) : News h₀ L h' ((y, instObj 425 dy) :: (dy, cellD hs tk tn n) :: news) := by
  have nn : ∀ b, h.get? b = none → h₀.get? b = none := fun b e => by
    cases q : h₀.get? b with
    | none => rfl
    | some o => rw [F.keep _ _ q] at e; cases e
  obtain ⟨oL, _, _, hL, _⟩ := F.ns
  have nl : ∀ b, h.get? b = none → b ≠ L := fun b e q => by subst q; rw [hL] at e; cases e
  intro q hq
  rcases List.mem_cons.mp hq with rfl | hq
  · exact ⟨c.ox, nl _ c.gx, nn _ c.gx⟩
  rcases List.mem_cons.mp hq with rfl | hq
  · exact ⟨c.od, nl _ c.gd, nn _ c.gd⟩
  exact N.grown k q hq
/-- a new cell's two places are none of the ledger's -/
def Off2 (news : List (Addr × Obj)) (y dy : Addr) : Prop := ∀ q ∈ news, q.1 ≠ y ∧ q.1 ≠ dy
theorem off2_of {h h' : Heap} {y dy : Addr} {hs : Int} {tk tn : Tok} {n : Int} (N : News h₀ L h news) (c : Cell h h' y dy hs tk tn n) : Off2 news y dy := fun q hq =>
  ⟨fun e => by
    have := (N q hq).1
    rw [e, c.gx] at this
    (cases this), fun e => by
    have := (N q hq).1
    rw [e, c.gd] at this
    cases this⟩
theorem use_cell {r : Int} {t : Sem Value} (c : Calls' (model PR w) A f vs s E t) (C : Ct w d f vs Pre (fun h h' v => NewC h h' v r)) (F : Fr h₀ L s.heap m) (X : (hd.heap_39 w.params).In h₀) (N : News h₀ L s.heap news) (T : TopRead p loose mg mb h₀) (hp : Pre h₀ s.heap) (hA : A.depth + d < recursionLimit) (hu : A.units + 5 * d < cLine)
    (h : ∀ y dy hs tk tn h' tk', Fr h₀ L h' m → News h₀ L h' ((y, instObj 425 dy) :: (dy, cellD hs tk tn r) :: news) → Off2 news y dy → Q (.ref y) { s with heap := h', toks := tk' }) : wpAny (model PR w) A t Q E s :=
  c.1 Q <| C A s h₀ mg mb p loose Q ⟨X, T⟩ F.keep hp hA hu fun v h' tk' k ⟨y, e, dy, hs, tk, tn, c⟩ => by subst e; exact h y dy hs tk tn h' tk' (F.keeps k) (news_cell F N k c) (off2_of N c)
end

theorem isCell_fresh {g h0 h : Heap} {L x dx : Addr} {hs : Int} {tk tn : Tok} {n : Int} {news : List (Addr × Obj)} (N : News g L h news) (kn : ∀ q ∈ news, h0.get? q.1 = none) (h1 : (x, instObj 425 dx) ∈ news) (h2 : (dx, cellD hs tk tn n) ∈ news) : IsCell h0 h x n :=
  ⟨dx, hs, tk, tn, (N _ h1).1, (N _ h2).1, kn _ h1, kn _ h2⟩
theorem isCell_end {g h0 h : Heap} {L x dx : Addr} {hs : Int} {tk tn : Tok} {n : Int} {news olds news1 : List (Addr × Obj)} (N : News g L h news) (kn : ∀ q ∈ news, q ∈ olds ∨ h0.get? q.1 = none) (h1 : (x, instObj 425 dx) ∈ news) (h2 : (dx, cellD hs tk tn n) ∈ news)
    (o : Off2 news1 x dx) (hs' : ∀ q ∈ olds, q ∈ news1) : IsCell h0 h x n :=
  ⟨dx, hs, tk, tn, (N _ h1).1, (N _ h2).1, (kn _ h1).resolve_left fun q => (o _ (hs' _ q)).1 rfl, (kn _ h2).resolve_left fun q => (o _ (hs' _ q)).2 rfl⟩
theorem kf0 : PySem.Challenge.rw_eq0043_01 = PySem.Challenge.rw_eq0043_01 ∧ hd.heap_39 = hd.heap_39 := ⟨rfl, rfl⟩
theorem meth_class {w : World} {A : Around} {s : Shared} {h₀ : Heap} {L x : Addr} {m : Str → Option Value} {ox od : Obj} {pl : Sem Bool} {Q : Value × List Value → Shared → Prop} {E : Value → Shared → Prop} (F : Fr h₀ L s.heap m) (X₀ : (hd.heap_39 w.params).In h₀) (I : PySem.W.InstAt s.heap x ox 425 (some od))
    (h : Q (.ref 425, []) { s with toks := s.toks + 1 }) : wpAny (model PR w) A (getMethod (.ref x) "__class__" pl) Q E s := by
  have kf : PySem.Challenge.rw_eq0043_01 = PySem.Challenge.rw_eq0043_01 ∧ hd.heap_39 = hd.heap_39 := by
    k_fill
    exact kf0
  have e : typeIn (hd.heap_39 w.params) (.builtin "object.__class__") = some (.type "getset_descriptor") := by k_is
  exact method_usual (r := some (.builtin "object.__class__")) (X₀.keeps F.keep) I (by k_is) (by k_is) (by k_is) (by
    rw [Option.all_some, e]
    decide) (get_class F X₀ I (by k_is) (by k_is) (by k_is) (by k_is) (by k_is) (by k_is) h)
end Mine
-- part MV
namespace Mine
open PySem.W
/-- a call that lays one object (the tuple of the rest) -/
theorem wp_of_peekA {α : Type} {K : Frag} {M : Model} {A : Around} {E : Value → Shared → Prop} {Q : α → Shared → Prop} {s : Shared} {o : Obj} {r : Addr → α} (X : K.In s.heap)
    (q : Q (r s.heap.objs.size) { s with heap := s.heap.push o }) :
    ∀ (t : Sem α) (g : Addr → Option α), peek1 K ⟨M.prog, M.w.params⟩ t = some (o, g) → (∀ D, g D = some (r D)) → wpAny M A t Q E s := by
  intro t
  induction t with
  | rule _ k ih => intro g e hg Γ p hΓ; exact ih () g e hg Γ p hΓ
  | point _ k ih => intro g e hg Γ p hΓ; exact ih () g e hg Γ p hΓ
  | ask k ih => intro g e hg Γ p hΓ; exact ih _ g e hg Γ p hΓ
  | load a _ k ih =>
    intro g e hg Γ p hΓ
    simp only [peek1] at e
    split at e
    · rename_i ob ho; exact ⟨ob, X _ _ ho, ih ob g e hg Γ p hΓ⟩
    · cases e
  | alloc ob k _ =>
    intro g e hg
    have e : some (ob, fun D => peek K ⟨M.prog, M.w.params⟩ (k D)) = some (o, g) := e
    obtain ⟨e1, e2⟩ := Prod.mk.inj (Option.some.inj e)
    subst e1
    subst e2
    have X' : K.In (s.heap.push ob) := X.keeps fun b x hb => Heap.get?_push_of_some _ hb
    show wpAny M A (alloc ob >>= k) Q E s
    refine wpAny_bind (wpAny_alloc ?_)
    exact (Looks.of_peek (M := M) (h := s.heap.push ob) X' (hg s.heap.objs.size)).here (s := { s with heap := s.heap.push ob }) q
  | _ => intro g e; cases e

abbrev tupO (vs : List Value) : Obj := { cls := .type "tuple", data := .seq vs.toArray }
theorem enterV {w : World} {A : Around} {s : Shared} {g : Heap} {mg mb : Str → Option Value} {p : Program} {loose : List Str} {olds : List (Addr × Obj)}
    {Q : Value → Shared → Prop} {name qual : Str} {params : Arguments} {body : List Stmt} {scope : Scope} {dV kV doc pm cdv ct oc : Value} {an od : Option Addr} {osl : Array (Option Value)} {f : Addr} {args : List Value} {vs : List Value} {g₁ : Addr → Option (List (Str × Value))} {binds : Addr → List (Str × Value)}
    (G : Gd w mg mb p loose g) (hg : Keep g s.heap) (ho : ∀ q ∈ olds, s.heap.get? q.1 = some q.2 ∧ g.get? q.1 = none)
    (hl : (hd.heap_39 w.params).lookup f = some ⟨oc, od, .func (fnOf name qual params body scope dV kV doc pm an cdv ct), osl⟩) (hcd : codeIn (hd.heap_39 w.params) cdv qual = true) (hroom : A.depth < recursionLimit)
    (hp : peek1 (hd.heap_39 w.params) ⟨PR, w.params⟩ (bindArgs (fnOf name qual params body scope dV kV doc pm an cdv ct) ⟨args, []⟩) = some (tupO vs, g₁))
    (hgg : ∀ D, g₁ D = some (binds D)) (hloc : ∀ D, ∀ y ∈ binds D, scope.names.lookup y.1 = some .local)
    (h : ∀ D g' L' h₁ tk', Fr g' L' h₁ (fun y => (binds D).reverse.lookup y) → News g' L' h₁ ((D, tupO vs) :: olds) → Gd w mg mb p loose g' → Keep g g' → (∀ q ∈ olds, q.1 < D) →
      wpAny (model PR w) (A.deeper (envOf qual scope L' f cdv)) (execs body (envOf qual scope L' f cdv))
        (fun fl s' => EndK g' L' ((D, tupO vs) :: olds) s.heap Q (match fl with | .ret v => v | _ => .none) s') (fun _ _ => False)
        { s with heap := h₁, toks := tk' })
    (hco : scope.isCoroutine = false) (hgen : scope.isGenerator = false) (hk : scope.kind = .function)
    (hcell : ∀ x ∈ scope.names, x.2 ≠ .cell) : codeAny (model PR w) A (.call (.ref f) ⟨args, []⟩) (Ret Q) s := by
  have Xs := G.X.keeps hg
  refine codeAny_call_function (fd := fnOf name qual params body scope dV kV doc pm an cdv ct) (body := body) hroom (Xs _ _ hl) rfl hco hgen rfl (codeRec_of Xs hcd) ?_
  refine wp_of_peekA (o := tupO vs) Xs (r := binds) ?_ _ g₁ hp hgg
  have kp : Keep s.heap (s.heap.push (tupO vs)) := fun b o e => Heap.get?_push_of_some _ e
  have nD : s.heap.get? s.heap.objs.size = none := by
    cases q : s.heap.get? s.heap.objs.size with
    | none => rfl
    | some o => exact absurd (Heap.lt_size q) (Nat.lt_irrefl _)
  have gD : g.get? s.heap.objs.size = none := by
    cases q : g.get? s.heap.objs.size with
    | none => rfl
    | some o => rw [hg _ _ q] at nD; cases nD
  have hg1 : Keep g (s.heap.push (tupO vs)) := fun b o e => kp _ _ (hg b o e)
  have ho1 : ∀ q ∈ (s.heap.objs.size, tupO vs) :: olds, (s.heap.push (tupO vs)).get? q.1 = some q.2 ∧ g.get? q.1 = none := by
    intro q hq
    rcases List.mem_cons.mp hq with rfl | hq
    · exact ⟨Heap.get?_push_size _ rfl, gD⟩
    · exact ⟨kp _ _ (ho q hq).1, (ho q hq).2⟩
  generalize hD : s.heap.objs.size = D at *
  generalize hS : s.heap.push (tupO vs) = S at *
  refine wpAny_newFunctionEnv (hcell) (hloc D) (fun h₁ hns hsb => ⟨(G.T.nolimit.keeps hg1).fresh _ hsb, codeAny_func ?_⟩) hk
  have hk₁ : ∀ b o, S.get? b = some o → h₁.get? b = some o := fun b o e => hsb.extBut b o (Nat.ne_of_lt (Heap.lt_size e)) (Heap.get?_push_of_some _ e)
  have nm : ∀ b o, g.get? b = some o → b ∉ (((D, tupO vs) :: olds).map (·.1)) := fun b o e q => by
    obtain ⟨p, hp, rfl⟩ := List.mem_map.mp q
    rw [(ho1 p hp).2] at e; cases e
  have st : Keep g (hideAll S (((D, tupO vs) :: olds).map (·.1))) := fun b o e => hideAll_get _ (hg1 b o e) (nm b o e)
  refine wpAny_mono (h D (hideAll S (((D, tupO vs) :: olds).map (·.1))) S.objs.size h₁ _ ⟨hns, fun b o e => hk₁ b o (of_hideAll _ e), Nat.le_of_eq (hideAll_size _ _)⟩
    (fun p hp => ⟨hk₁ _ _ (ho1 p hp).1, Nat.ne_of_lt (Heap.lt_size (ho1 p hp).1), hideAll_none _ (List.mem_map_of_mem hp)⟩) (G.keeps st) st (fun q hq => by rw [← hD]; exact Heap.lt_size (ho q hq).1)) (fun fl s' hl => ?_) (fun _ _ y => y.elim)
  obtain ⟨m', news', F', N', hs, k⟩ := hl
  have kS : Keep S s'.heap := fun b o e => by
    by_cases hb : b ∈ ((D, tupO vs) :: olds).map (·.1)
    · obtain ⟨q, hq, rfl⟩ := List.mem_map.mp hb
      have := (ho1 q hq).1
      rw [e] at this; cases this
      exact (N' q (hs q hq)).1
    · exact F'.keep b o (hideAll_get _ e hb)
  refine k (fun b o e => kS b o (kp b o e)) (fun q hq => ?_)
  by_cases hb : q.1 ∈ ((D, tupO vs) :: olds).map (·.1)
  · left
    obtain ⟨r, hr, e⟩ := List.mem_map.mp hb
    have h1 := (N' q hq).1
    have h2 := (N' r (hs r hr)).1
    rw [e, h1] at h2
    cases r; cases q
    cases e; cases h2
    exact hr
  · right
    cases e : s.heap.get? q.1 with
    | none => rfl
    | some o =>
      have := (N' q hq).2.2
      rw [hideAll_get _ (kp _ _ e) hb] at this; cases this
end Mine
section
local macro_rules | `(tactic| walk_at "m_room") => `(tactic| ((try simp only [depth_in1, depth_deeper, Around.deeper, Around.mark, depth_under_make]); omega))
local macro_rules | `(tactic| walk_at "m_units") => `(tactic| ((try simp only [units_in1, units_deeper, Around.mark_units]); omega))
local macro_rules | `(tactic| k_units) => `(tactic| walk_at "m_units")
local macro_rules | `(tactic| k_room) => `(tactic| walk_at "m_room")
local macro_rules | `(tactic| walk_at "m_cell") => `(tactic| exact Mine.isCell_of (by k_asm) (by k_mem) (by k_mem))
local macro_rules | `(tactic| walk_at "m_end") => `(tactic| ((try dsimp only); refine' Mine.endK_ ?F ?N ?S ?_; (case F => k_asm); (case N => k_asm); (case S => k_sub)))
local macro_rules | `(tactic| walk_at "getMethod ref") => `(tactic| (k_here; (with_reducible show wpAny _ _ (getMethod (Value.ref _) (PySem.Str.ofString "__class__") _) _ _ _); k_dflt (refine' Mine.meth_class ?F ?X ?I ?_; (case F => k_asm); (case X => k_asm); (case I => k_inst); k_whole)))
local macro_rules | `(tactic| walk_at "eval Name") => `(tactic| (k_here; (with_reducible show wpAny _ _ (eval _ (envOf _ _ _ _ _)) _ _ _); k_dflt (refine' ld ?k1 ?k2 ?_; (case k1 => k_asm); (case k2 => exact rfl); k_whole)))
local macro_rules | `(tactic| walk_at "getMethod ref") => `(tactic| (k_here; k_dflt (refine' method_inst ?k1 ?k2 ?k3 ?k4 ?k5 ?k6 ?k7 ?_; (case k1 => k_asm); (case k2 => k_asm); (case k3 => k_inst); (case k4 => k_is); (case k5 => k_is); (case k6 => k_is); (case k7 => k_get); k_whole)))
local macro_rules | `(tactic| walk_at "callWith ref") => `(tactic| (k_here; (with_reducible show wpAny _ _ (PySem.callWith _ (Value.ref _) _ (backTo _ (starEach [] _)) []) _ _ _); k_dflt (refine' callWith_K0 ?k1 ?k2 ?_; (case k1 => k_in); (case k2 => k_is); k_whole)))
local macro_rules | `(tactic| walk_at "getAttr ref") => `(tactic| (k_here; k_dflt (refine' get_own ?k1 ?k2 ?k3 ?k4 ?k5 ?k6 ?k7 ?k8 ?k9 ?_; (case k1 => k_asm); (case k2 => k_asm); (case k3 => k_inst); (case k4 => k_is); (case k5 => k_is); (case k6 => k_is); (case k7 => k_is); (case k8 => k_get); (case k9 => k_handed); k_whole)))
local macro_rules | `(tactic| walk_at "binaryOp Pow int int") => `(tactic| (k_here; (with_reducible refine pow_int_small ?a ?b ?c ?_); (case a => omega); (case b => omega); (case c => first | decide | omega)))
local macro_rules | `(tactic| walk_at "binaryOp LShift int int") => `(tactic| (k_here; (with_reducible refine lshift_int_small ?a ?b ?c ?_); (case a => omega); (case b => omega); (case c => first | decide | omega)))
-- part M1
namespace Mine
open PySem.W
def lw (n : Int) : Int := Builtin.bitAnd n (-n)
def fc (n : Int) : Int := n.fdiv (2 ^ Int.toNat 61)
def psn (n : Int) : Int := Builtin.bitAnd n (Int.fdiv 18446744073709551615 (2 ^ Int.toNat 3))
def lfb (n : Int) : Bool := Builtin.bitAnd n 1 != 0
def lz (l : Int) : Int := 1 * 2 ^ (2 * (30 - l)).toNat
def fcb (n : Int) : Bool := Builtin.bitAnd n (lz 0 - 1) == 0
def EndM (g : Heap) (L : Addr) (h0 : Heap) (R : Result → Shared → Prop) (v : Value) (s' : Shared) : Prop :=
  ∃ m' news', Fr g L s'.heap m' ∧ News g L s'.heap news' ∧ (Keep h0 s'.heap → (∀ q ∈ news', h0.get? q.1 = none) → R (.ok (.ret v)) s')
/-- a def that stores into what was made for it: all of h0 stays -/
theorem enterM {w : World} {A : Around} {s : Shared} {g h0 : Heap} {mg mb : Str → Option Value} {p : Program} {loose : List Str} {olds : List (Addr × Obj)}
    {R : Result → Shared → Prop} {name qual : Str} {params : Arguments} {body : List Stmt} {scope : Scope} {dV kV doc pm cdv ct oc : Value} {an od : Option Addr} {osl : Array (Option Value)} {f : Addr} {args : List Value} {kw : List (Str × Value)} {binds : List (Str × Value)}
    (G : Gd w mg mb p loose g) (hg : Keep g h0) (hk0 : Keep h0 s.heap) (ho : ∀ q ∈ olds, s.heap.get? q.1 = some q.2 ∧ h0.get? q.1 = none)
    (hl : (hd.heap_39 w.params).lookup f = some ⟨oc, od, .func (fnOf name qual params body scope dV kV doc pm an cdv ct), osl⟩) (hcd : codeIn (hd.heap_39 w.params) cdv qual = true) (hroom : A.depth < recursionLimit)
    (hbind : BindsTo s (fnOf name qual params body scope dV kV doc pm an cdv ct) ⟨args, kw⟩ binds) (hloc : ∀ y ∈ binds, scope.names.lookup y.1 = some .local)
    (h : ∀ g' L' h₁, Fr g' L' h₁ (fun y => binds.reverse.lookup y) → News g' L' h₁ olds → Gd w mg mb p loose g' → Keep g g' →
      wpAny (model PR w) (A.deeper (envOf qual scope L' f cdv)) (execs body (envOf qual scope L' f cdv))
        (fun fl s' => EndM g' L' h0 R (match fl with | .ret v => v | _ => .none) s') (fun _ _ => False)
        { s with heap := h₁, toks := s.toks + binds.length })
    (hco : scope.isCoroutine = false) (hgen : scope.isGenerator = false) (hk : scope.kind = .function)
    (hcell : ∀ x ∈ scope.names, x.2 ≠ .cell) : codeAny (model PR w) A (.call (.ref f) ⟨args, kw⟩) R s := by
  have hgs : Keep g s.heap := fun b o e => hk0 b o (hg b o e)
  have Xs := G.X.keeps hgs
  refine (codeAny_call_def (fd := fnOf name qual params body scope dV kV doc pm an cdv ct) (body := body) (binds := binds) hroom (Xs _ _ hl) rfl (G.T.nolimit.keeps hgs) (codeRec_of Xs hcd) rfl hbind hcell hloc (fun h₁ hns hk₁ => ?_) hco hgen hk)
  have nm : ∀ b o, h0.get? b = some o → b ∉ olds.map (·.1) := fun b o e q => by
    obtain ⟨p, hp, rfl⟩ := List.mem_map.mp q
    rw [(ho p hp).2] at e; cases e
  have st0 : Keep h0 (hideAll s.heap (olds.map (·.1))) := fun b o e => hideAll_get _ (hk0 b o e) (nm b o e)
  have st : Keep g (hideAll s.heap (olds.map (·.1))) := fun b o e => st0 b o (hg b o e)
  refine wpAny_mono (h (hideAll s.heap (olds.map (·.1))) s.heap.objs.size h₁ ⟨hns, fun b o e => hk₁ b o (of_hideAll _ e), Nat.le_of_eq (hideAll_size _ _)⟩
    (fun p hp => ⟨hk₁ _ _ (ho p hp).1, Nat.ne_of_lt (Heap.lt_size (ho p hp).1), hideAll_none _ (List.mem_map_of_mem hp)⟩) (G.keeps st) st) (fun fl s' hl => ?_) (fun _ _ y => y.elim)
  obtain ⟨m', news', F', N', k⟩ := hl
  refine k (fun b o e => F'.keep b o (st0 b o e)) (fun q hq => ?_)
  cases e : h0.get? q.1 with
  | none => rfl
  | some o => have := (N' q hq).2.2; rw [st0 _ _ e] at this; cases this

theorem ct_mk (w : World) (n : Int) (t : Tok) (h0 : 0 ≤ n) (h1 : n < 18446744073709551615) : Ct w 3 425 [.int n t] (fun _ _ => True) (fun h h' v => NewC h h' v n) := by
  intro A s g mg mb p loose Q G hg hP hA hu h
  have Xs := G.X.keeps hg
  obtain ⟨hh, gs, dr, tks, os⟩ := s
  dsimp only at Xs hg h
  have hi : findIn (hd.heap_39 w.params) (.ref 425) "__init__" = some (some (.ref 36)) := by k_is
  have hm : makesIn (hd.heap_39 w.params) 425 = true := by k_is
  have hf : typeIn (hd.heap_39 w.params) (.ref 36) = some (.type "function") := by k_is
  refine (make_core (makes_of Xs hm) (looks_findIn Xs hi) (fun self => bind_fn Xs self hf) (.inl rfl) ?_)
  have hk : Keep hh ((hh.push emptyDict).push (instObj 425 hh.objs.size)) := fun b o e => Heap.get?_push_of_some _ (Heap.get?_push_of_some _ e)
  have e1 : ((hh.push emptyDict).push (instObj 425 hh.objs.size)).get? (hh.objs.size + 1) = some (instObj 425 hh.objs.size) := by
    have := Heap.get?_push_size (h := hh.push emptyDict) (o := instObj 425 hh.objs.size) rfl
    rwa [Heap.size_push] at this
  have e2 : ((hh.push emptyDict).push (instObj 425 hh.objs.size)).get? hh.objs.size = some emptyDict := Heap.get?_push_of_some _ (Heap.get?_push_size _ rfl)
  have n1 : hh.get? (hh.objs.size + 1) = none := by
    cases q : hh.get? (hh.objs.size + 1) with
    | none => rfl
    | some o => exact absurd (Heap.lt_size q) (Nat.not_lt.mpr (Nat.le_succ _))
  have n2 : hh.get? hh.objs.size = none := by
    cases q : hh.get? hh.objs.size with
    | none => rfl
    | some o => exact absurd (Heap.lt_size q) (Nat.lt_irrefl _)
  refine' enterM (binds := [(PySem.Str.ofString "self", .ref (hh.objs.size + 1)), (PySem.Str.ofString "id_", .int n t)]) (olds := [(hh.objs.size + 1, instObj 425 hh.objs.size), (hh.objs.size, emptyDict)]) G hg hk ?ho ?k6 ?k7 ?k8 ?k9 ?kB ?_ ?c2 ?c3 ?c4 ?c5
  case ho =>
    intro q hq
    simp only [List.mem_cons, List.not_mem_nil, or_false] at hq
    rcases hq with rfl | rfl
    · exact ⟨e1, n1⟩
    · exact ⟨e2, n2⟩
  case k6 => k_is
  case k7 => k_is
  case k8 => walk_at "m_room"
  case k9 => exact binds_K (Xs.keeps hk) rfl (by k_is) rfl rfl rfl
  case c5 => decide
  case kB => exact locs rfl
  case c2 => exact rfl
  case c3 => exact rfl
  case c4 => exact rfl
  intro g' L' h₁ F' N' G' gg'
  have X' := G'.X
  have T' := G'.T
  try dsimp only
  k_steps
  try dsimp only
  refine ⟨_, _, by k_asm, by k_asm, fun k kn => ⟨rfl, ?_⟩⟩
  try dsimp only
  have hmod : n.fmod 18446744073709551615 = n := by
    rw [Int.fmod_eq_emod_of_nonneg _ (by decide)]
    exact Int.emod_eq_of_lt h0 h1
  have c := isCell_fresh (n := n.fmod 18446744073709551615) (by k_asm) kn (by k_mem) (by k_mem)
  rw [hmod] at c
  exact h _ _ _ k ⟨_, rfl, c⟩
local macro_rules | `(tactic| walk_at "call ref") => `(tactic| (k_here; (with_reducible show wpAny _ _ (call (Value.ref 425) _ _) _ _ _); refine' Mine.use_cell (f := 425) ?c (Mine.ct_mk _ _ _ ?v0 ?v1) ?F ?X ?N ?T ?P ?A ?U ?_; (case c => (refine' Mine.calls_of rfl ?e1; (case e1 => exact rfl))); (case F => k_asm); (case X => k_asm); (case N => k_asm); (case T => k_asm); (case P => trivial); (case v0 => first | assumption | omega); (case v1 => first | assumption | omega); (case A => walk_at "m_room"); (case U => walk_at "m_units"); k_whole; intro y' dy' hs' tk1' tn' h' tk'' F' N' O'; (try k_sweep)))
theorem ct_id (w : World) (x : Addr) (n : Int) : Ct w 1 194 [.ref x] (fun g h => IsCell g h x n) (fun h h' v => ∃ tk, v = .int n tk) := by
  intro A s g mg mb p loose Q G hg ⟨dx, hs, tk, tn, c⟩ hA hu h
  refine' enter (binds := [(PySem.Str.ofString "self", .ref x)]) G hg (olds1 c) ?k6 ?k7 ?k8 ?k9 ?kB ?_ ?c2 ?c3 ?c4 ?c5
  case k6 => k_is
  case k7 => k_is
  case k8 => walk_at "m_room"
  case k9 => exact BindsTo.of_eq rfl
  case c5 => decide
  case kB => exact locs rfl
  case c2 => exact rfl
  case c3 => exact rfl
  case c4 => exact rfl
  intro g' L' h₁ F' N' G' gg'
  have X' := G'.X
  have T' := G'.T
  try dsimp only
  k_steps
  all_goals (try k_data)
  walk_at "m_end"
  intro k kn
  exact h _ _ _ k ⟨_, rfl⟩
local macro_rules | `(tactic| walk_at "call ref") => `(tactic| (k_here; (with_reducible show wpAny _ _ (call (Value.ref 194) _ _) _ _ _); refine' Mine.use_int (f := 194) ?c (Mine.ct_id _ _ _) ?F ?X ?N ?T ?P ?A ?U ?_; (case c => (refine' Mine.calls_of rfl ?e1; (case e1 => exact rfl))); (case F => k_asm); (case X => k_asm); (case N => k_asm); (case T => k_asm); (case P => walk_at "m_cell"); (case A => walk_at "m_room"); (case U => walk_at "m_units"); k_whole; intro tk' h' tk'' F' N'; (try k_sweep)))
theorem ct_lsb (w : World) (x : Addr) (n : Int) : Ct w 2 208 [.ref x] (fun g h => IsCell g h x n) (fun h h' v => ∃ tk, v = .int (lw n) tk) := by
  intro A s g mg mb p loose Q G hg ⟨dx, hs, tk, tn, c⟩ hA hu h
  refine' enter (binds := [(PySem.Str.ofString "self", .ref x)]) G hg (olds1 c) ?k6 ?k7 ?k8 ?k9 ?kB ?_ ?c2 ?c3 ?c4 ?c5
  case k6 => k_is
  case k7 => k_is
  case k8 => walk_at "m_room"
  case k9 => exact BindsTo.of_eq rfl
  case c5 => decide
  case kB => exact locs rfl
  case c2 => exact rfl
  case c3 => exact rfl
  case c4 => exact rfl
  intro g' L' h₁ F' N' G' gg'
  have X' := G'.X
  have T' := G'.T
  try dsimp only
  k_steps
  all_goals (try k_data)
  walk_at "m_end"
  intro k kn
  exact h _ _ _ k ⟨_, rfl⟩
local macro_rules | `(tactic| walk_at "call ref") => `(tactic| (k_here; (with_reducible show wpAny _ _ (call (Value.ref 208) _ _) _ _ _); refine' Mine.use_int (f := 208) ?c (Mine.ct_lsb _ _ _) ?F ?X ?N ?T ?P ?A ?U ?_; (case c => (refine' Mine.calls_of rfl ?e1; (case e1 => exact rfl))); (case F => k_asm); (case X => k_asm); (case N => k_asm); (case T => k_asm); (case P => walk_at "m_cell"); (case A => walk_at "m_room"); (case U => walk_at "m_units"); k_whole; intro tk' h' tk'' F' N'; (try k_sweep)))
theorem ct_face (w : World) (x : Addr) (n : Int) : Ct w 2 215 [.ref x] (fun g h => IsCell g h x n) (fun h h' v => ∃ tk, v = .int (fc n) tk) := by
  intro A s g mg mb p loose Q G hg ⟨dx, hs, tk, tn, c⟩ hA hu h
  refine' enter (binds := [(PySem.Str.ofString "self", .ref x)]) G hg (olds1 c) ?k6 ?k7 ?k8 ?k9 ?kB ?_ ?c2 ?c3 ?c4 ?c5
  case k6 => k_is
  case k7 => k_is
  case k8 => walk_at "m_room"
  case k9 => exact BindsTo.of_eq rfl
  case c5 => decide
  case kB => exact locs rfl
  case c2 => exact rfl
  case c3 => exact rfl
  case c4 => exact rfl
  intro g' L' h₁ F' N' G' gg'
  have X' := G'.X
  have T' := G'.T
  try dsimp only
  k_steps
  all_goals (try k_data)
  walk_at "m_end"
  intro k kn
  exact h _ _ _ k ⟨_, rfl⟩
local macro_rules | `(tactic| walk_at "call ref") => `(tactic| (k_here; (with_reducible show wpAny _ _ (call (Value.ref 215) _ _) _ _ _); refine' Mine.use_int (f := 215) ?c (Mine.ct_face _ _ _) ?F ?X ?N ?T ?P ?A ?U ?_; (case c => (refine' Mine.calls_of rfl ?e1; (case e1 => exact rfl))); (case F => k_asm); (case X => k_asm); (case N => k_asm); (case T => k_asm); (case P => walk_at "m_cell"); (case A => walk_at "m_room"); (case U => walk_at "m_units"); k_whole; intro tk' h' tk'' F' N'; (try k_sweep)))
theorem ct_pos (w : World) (x : Addr) (n : Int) : Ct w 2 222 [.ref x] (fun g h => IsCell g h x n) (fun h h' v => ∃ tk, v = .int (psn n) tk) := by
  intro A s g mg mb p loose Q G hg ⟨dx, hs, tk, tn, c⟩ hA hu h
  refine' enter (binds := [(PySem.Str.ofString "self", .ref x)]) G hg (olds1 c) ?k6 ?k7 ?k8 ?k9 ?kB ?_ ?c2 ?c3 ?c4 ?c5
  case k6 => k_is
  case k7 => k_is
  case k8 => walk_at "m_room"
  case k9 => exact BindsTo.of_eq rfl
  case c5 => decide
  case kB => exact locs rfl
  case c2 => exact rfl
  case c3 => exact rfl
  case c4 => exact rfl
  intro g' L' h₁ F' N' G' gg'
  have X' := G'.X
  have T' := G'.T
  try dsimp only
  k_steps
  all_goals (try k_data)
  walk_at "m_end"
  intro k kn
  exact h _ _ _ k ⟨_, rfl⟩
local macro_rules | `(tactic| walk_at "call ref") => `(tactic| (k_here; (with_reducible show wpAny _ _ (call (Value.ref 222) _ _) _ _ _); refine' Mine.use_int (f := 222) ?c (Mine.ct_pos _ _ _) ?F ?X ?N ?T ?P ?A ?U ?_; (case c => (refine' Mine.calls_of rfl ?e1; (case e1 => exact rfl))); (case F => k_asm); (case X => k_asm); (case N => k_asm); (case T => k_asm); (case P => walk_at "m_cell"); (case A => walk_at "m_room"); (case U => walk_at "m_units"); k_whole; intro tk' h' tk'' F' N'; (try k_sweep)))
theorem ct_is_leaf (w : World) (x : Addr) (n : Int) : Ct w 2 229 [.ref x] (fun g h => IsCell g h x n) (fun h h' v => v = .bool (lfb n)) := by
  intro A s g mg mb p loose Q G hg ⟨dx, hs, tk, tn, c⟩ hA hu h
  refine' enter (binds := [(PySem.Str.ofString "self", .ref x)]) G hg (olds1 c) ?k6 ?k7 ?k8 ?k9 ?kB ?_ ?c2 ?c3 ?c4 ?c5
  case k6 => k_is
  case k7 => k_is
  case k8 => walk_at "m_room"
  case k9 => exact BindsTo.of_eq rfl
  case c5 => decide
  case kB => exact locs rfl
  case c2 => exact rfl
  case c3 => exact rfl
  case c4 => exact rfl
  intro g' L' h₁ F' N' G' gg'
  have X' := G'.X
  have T' := G'.T
  try dsimp only
  k_steps
  all_goals (try k_data)
  walk_at "m_end"
  intro k kn
  exact h _ _ _ k rfl
local macro_rules | `(tactic| walk_at "call ref") => `(tactic| (k_here; (with_reducible show wpAny _ _ (call (Value.ref 229) _ _) _ _ _); refine' Mine.use_bool (f := 229) ?c (Mine.ct_is_leaf _ _ _) ?F ?X ?N ?T ?P ?A ?U ?_; (case c => (refine' Mine.calls_of rfl ?e1; (case e1 => exact rfl))); (case F => k_asm); (case X => k_asm); (case N => k_asm); (case T => k_asm); (case P => walk_at "m_cell"); (case A => walk_at "m_room"); (case U => walk_at "m_units"); k_whole; intro h' tk'' F' N'; (try dsimp only [PySem.W.CmpBack]); (try k_sweep)))
theorem ct_lsbl (w : World) (l : Int) (t : Tok) (h0 : 0 ≤ l) (h1 : l ≤ 30) : Ct w 1 149 [.ref 425, .int l t] (fun _ _ => True) (fun h h' v => ∃ tk, v = .int (lz l) tk) := by
  intro A s g mg mb p loose Q G hg hP hA hu h
  refine' enter (binds := [(PySem.Str.ofString "cls", .ref 425), (PySem.Str.ofString "level", .int l t)]) G hg olds0 ?k6 ?k7 ?k8 ?k9 ?kB ?_ ?c2 ?c3 ?c4 ?c5
  case k6 => k_is
  case k7 => k_is
  case k8 => walk_at "m_room"
  case k9 => exact BindsTo.of_eq rfl
  case c5 => decide
  case kB => exact locs rfl
  case c2 => exact rfl
  case c3 => exact rfl
  case c4 => exact rfl
  intro g' L' h₁ F' N' G' gg'
  have X' := G'.X
  have T' := G'.T
  try dsimp only
  k_steps
  all_goals (try k_data)
  walk_at "m_end"
  intro k kn
  exact h _ _ _ k ⟨_, rfl⟩
local macro_rules | `(tactic| walk_at "call ref") => `(tactic| (k_here; (with_reducible show wpAny _ _ (call (Value.ref 149) _ _) _ _ _); refine' Mine.use_int (f := 149) ?c (Mine.ct_lsbl _ _ _ ?v0 ?v1) ?F ?X ?N ?T ?P ?A ?U ?_; (case c => (refine' Mine.calls_of rfl ?e1; (case e1 => exact rfl))); (case F => k_asm); (case X => k_asm); (case N => k_asm); (case T => k_asm); (case P => trivial); (case v0 => first | assumption | omega); (case v1 => first | assumption | omega); (case A => walk_at "m_room"); (case U => walk_at "m_units"); k_whole; intro tk' h' tk'' F' N'; (try k_sweep)))
local macro_rules | `(tactic| walk_at "call ref") => `(tactic| (k_here; (with_reducible show wpAny _ _ (call (Value.ref _) _ _) _ _ _); refine' Mine.use_int (f := 149) ?c (Mine.ct_lsbl _ _ _ ?v0 ?v1) ?F ?X ?N ?T ?P ?A ?U ?_; (case c => (refine' Mine.calls_meth' ?q2 ?N2 rfl ?e2; (case N2 => k_asm); (case q2 => k_mem); (case e2 => exact rfl))); (case F => k_asm); (case X => k_asm); (case N => k_asm); (case T => k_asm); (case P => trivial); (case v0 => first | assumption | omega); (case v1 => first | assumption | omega); (case A => walk_at "m_room"); (case U => walk_at "m_units"); k_whole; intro tk' h' tk'' F' N'; (try k_sweep)))
theorem ct_is_face (w : World) (x : Addr) (n : Int) : Ct w 2 187 [.ref x] (fun g h => IsCell g h x n) (fun h h' v => v = .bool (fcb n)) := by
  intro A s g mg mb p loose Q G hg ⟨dx, hs, tk, tn, c⟩ hA hu h
  refine' enter (binds := [(PySem.Str.ofString "self", .ref x)]) G hg (olds1 c) ?k6 ?k7 ?k8 ?k9 ?kB ?_ ?c2 ?c3 ?c4 ?c5
  case k6 => k_is
  case k7 => k_is
  case k8 => walk_at "m_room"
  case k9 => exact BindsTo.of_eq rfl
  case c5 => decide
  case kB => exact locs rfl
  case c2 => exact rfl
  case c3 => exact rfl
  case c4 => exact rfl
  intro g' L' h₁ F' N' G' gg'
  have X' := G'.X
  have T' := G'.T
  try dsimp only
  k_steps
  all_goals (try k_data)
  walk_at "m_end"
  intro k kn
  exact h _ _ _ k rfl
local macro_rules | `(tactic| walk_at "call ref") => `(tactic| (k_here; (with_reducible show wpAny _ _ (call (Value.ref 187) _ _) _ _ _); refine' Mine.use_bool (f := 187) ?c (Mine.ct_is_face _ _ _) ?F ?X ?N ?T ?P ?A ?U ?_; (case c => (refine' Mine.calls_of rfl ?e1; (case e1 => exact rfl))); (case F => k_asm); (case X => k_asm); (case N => k_asm); (case T => k_asm); (case P => walk_at "m_cell"); (case A => walk_at "m_room"); (case U => walk_at "m_units"); k_whole; intro h' tk'' F' N'; (try dsimp only [PySem.W.CmpBack]); (try k_sweep)))
/-- the number of a valid cell -/
structure Vd (n : Int) : Prop where
  pos : 0 < n
  top : n < 13835058055282163712
  f6 : fc n < 6
  m : (Builtin.bitAnd (lw n) 1537228672809129301 != 0) = true
  l1 : 1 ≤ lw n
  ln : lw n ≤ n
  lt : n + lw n ≤ 13835058055282163712
theorem ct_is_valid (w : World) (x : Addr) (n : Int) (V : Vd n) : Ct w 3 201 [.ref x] (fun g h => IsCell g h x n) (fun h h' v => v = .bool true) := by
  intro A s g mg mb p loose Q G hg ⟨dx, hs, tk, tn, c⟩ hA hu h
  refine' enter (binds := [(PySem.Str.ofString "self", .ref x)]) G hg (olds1 c) ?k6 ?k7 ?k8 ?k9 ?kB ?_ ?c2 ?c3 ?c4 ?c5
  case k6 => k_is
  case k7 => k_is
  case k8 => walk_at "m_room"
  case k9 => exact BindsTo.of_eq rfl
  case c5 => decide
  case kB => exact locs rfl
  case c2 => exact rfl
  case c3 => exact rfl
  case c4 => exact rfl
  intro g' L' h₁ F' N' G' gg'
  have X' := G'.X
  have T' := G'.T
  have v1 := V.f6
  have v2 := V.m
  try dsimp only
  k_steps
  all_goals (try k_data)
  walk_at "m_end"
  intro k kn
  exact h _ _ _ k (by rw [v2])
local macro_rules | `(tactic| walk_at "call ref") => `(tactic| (k_here; (with_reducible show wpAny _ _ (call (Value.ref 201) _ _) _ _ _); refine' Mine.use_bool (f := 201) ?c (Mine.ct_is_valid _ _ _ ?v0) ?F ?X ?N ?T ?P ?A ?U ?_; (case c => (refine' Mine.calls_of rfl ?e1; (case e1 => exact rfl))); (case F => k_asm); (case X => k_asm); (case N => k_asm); (case T => k_asm); (case P => walk_at "m_cell"); (case v0 => first | assumption | omega); (case A => walk_at "m_room"); (case U => walk_at "m_units"); k_whole; intro h' tk'' F' N'; (try dsimp only [PySem.W.CmpBack]); (try k_sweep)))
theorem ct_range_min (w : World) (x : Addr) (n : Int) (V : Vd n) : Ct w 4 278 [.ref x] (fun g h => IsCell g h x n) (fun h h' v => NewC h h' v (n - (lw n - 1))) := by
  intro A s g mg mb p loose Q G hg ⟨dx, hs, tk, tn, c⟩ hA hu h
  refine' enter (binds := [(PySem.Str.ofString "self", .ref x)]) G hg (olds1 c) ?k6 ?k7 ?k8 ?k9 ?kB ?_ ?c2 ?c3 ?c4 ?c5
  case k6 => k_is
  case k7 => k_is
  case k8 => walk_at "m_room"
  case k9 => exact BindsTo.of_eq rfl
  case c5 => decide
  case kB => exact locs rfl
  case c2 => exact rfl
  case c3 => exact rfl
  case c4 => exact rfl
  intro g' L' h₁ F' N' G' gg'
  have X' := G'.X
  have T' := G'.T
  have v1 := V.l1
  have v2 := V.ln
  have v3 := V.top
  try dsimp only
  k_steps
  all_goals (try k_data)
  walk_at "m_end"
  intro k kn
  exact h _ _ _ k ⟨_, rfl, isCell_end (by k_asm) kn (by k_mem) (by k_mem) (by assumption) (by k_sub)⟩
local macro_rules | `(tactic| walk_at "call ref") => `(tactic| (k_here; (with_reducible show wpAny _ _ (call (Value.ref 278) _ _) _ _ _); refine' Mine.use_cell (f := 278) ?c (Mine.ct_range_min _ _ _ ?v0) ?F ?X ?N ?T ?P ?A ?U ?_; (case c => (refine' Mine.calls_of rfl ?e1; (case e1 => exact rfl))); (case F => k_asm); (case X => k_asm); (case N => k_asm); (case T => k_asm); (case P => walk_at "m_cell"); (case v0 => first | assumption | omega); (case A => walk_at "m_room"); (case U => walk_at "m_units"); k_whole; intro y' dy' hs' tk1' tn' h' tk'' F' N' O'; (try k_sweep)))
theorem ct_range_max (w : World) (x : Addr) (n : Int) (V : Vd n) : Ct w 4 285 [.ref x] (fun g h => IsCell g h x n) (fun h h' v => NewC h h' v (n + (lw n - 1))) := by
  intro A s g mg mb p loose Q G hg ⟨dx, hs, tk, tn, c⟩ hA hu h
  refine' enter (binds := [(PySem.Str.ofString "self", .ref x)]) G hg (olds1 c) ?k6 ?k7 ?k8 ?k9 ?kB ?_ ?c2 ?c3 ?c4 ?c5
  case k6 => k_is
  case k7 => k_is
  case k8 => walk_at "m_room"
  case k9 => exact BindsTo.of_eq rfl
  case c5 => decide
  case kB => exact locs rfl
  case c2 => exact rfl
  case c3 => exact rfl
  case c4 => exact rfl
  intro g' L' h₁ F' N' G' gg'
  have X' := G'.X
  have T' := G'.T
  have v1 := V.l1
  have v2 := V.ln
  have v3 := V.top
  have v4 := V.lt
  have v5 := V.pos
  try dsimp only
  k_steps
  all_goals (try k_data)
  walk_at "m_end"
  intro k kn
  exact h _ _ _ k ⟨_, rfl, isCell_end (by k_asm) kn (by k_mem) (by k_mem) (by assumption) (by k_sub)⟩
local macro_rules | `(tactic| walk_at "call ref") => `(tactic| (k_here; (with_reducible show wpAny _ _ (call (Value.ref 285) _ _) _ _ _); refine' Mine.use_cell (f := 285) ?c (Mine.ct_range_max _ _ _ ?v0) ?F ?X ?N ?T ?P ?A ?U ?_; (case c => (refine' Mine.calls_of rfl ?e1; (case e1 => exact rfl))); (case F => k_asm); (case X => k_asm); (case N => k_asm); (case T => k_asm); (case P => walk_at "m_cell"); (case v0 => first | assumption | omega); (case A => walk_at "m_room"); (case U => walk_at "m_units"); k_whole; intro y' dy' hs' tk1' tn' h' tk'' F' N' O'; (try k_sweep)))
end Mine
-- part M2
local macro_rules | `(tactic| walk_at "call ref") => `(tactic| (k_here; (with_reducible show wpAny _ _ (call (Value.ref 425) _ _) _ _ _); refine' Mine.use_cell (f := 425) ?c (Mine.ct_mk _ _ _ ?v0 ?v1) ?F ?X ?N ?T ?P ?A ?U ?_; (case c => (refine' Mine.calls_of rfl ?e1; (case e1 => exact rfl))); (case F => k_asm); (case X => k_asm); (case N => k_asm); (case T => k_asm); (case P => trivial); (case v0 => first | assumption | omega); (case v1 => first | assumption | omega); (case A => walk_at "m_room"); (case U => walk_at "m_units"); k_whole; intro y' dy' hs' tk1' tn' h' tk'' F' N' O'; (try k_sweep)))
local macro_rules | `(tactic| walk_at "call ref") => `(tactic| (k_here; (with_reducible show wpAny _ _ (call (Value.ref 194) _ _) _ _ _); refine' Mine.use_int (f := 194) ?c (Mine.ct_id _ _ _) ?F ?X ?N ?T ?P ?A ?U ?_; (case c => (refine' Mine.calls_of rfl ?e1; (case e1 => exact rfl))); (case F => k_asm); (case X => k_asm); (case N => k_asm); (case T => k_asm); (case P => walk_at "m_cell"); (case A => walk_at "m_room"); (case U => walk_at "m_units"); k_whole; intro tk' h' tk'' F' N'; (try k_sweep)))
local macro_rules | `(tactic| walk_at "call ref") => `(tactic| (k_here; (with_reducible show wpAny _ _ (call (Value.ref 208) _ _) _ _ _); refine' Mine.use_int (f := 208) ?c (Mine.ct_lsb _ _ _) ?F ?X ?N ?T ?P ?A ?U ?_; (case c => (refine' Mine.calls_of rfl ?e1; (case e1 => exact rfl))); (case F => k_asm); (case X => k_asm); (case N => k_asm); (case T => k_asm); (case P => walk_at "m_cell"); (case A => walk_at "m_room"); (case U => walk_at "m_units"); k_whole; intro tk' h' tk'' F' N'; (try k_sweep)))
local macro_rules | `(tactic| walk_at "call ref") => `(tactic| (k_here; (with_reducible show wpAny _ _ (call (Value.ref 215) _ _) _ _ _); refine' Mine.use_int (f := 215) ?c (Mine.ct_face _ _ _) ?F ?X ?N ?T ?P ?A ?U ?_; (case c => (refine' Mine.calls_of rfl ?e1; (case e1 => exact rfl))); (case F => k_asm); (case X => k_asm); (case N => k_asm); (case T => k_asm); (case P => walk_at "m_cell"); (case A => walk_at "m_room"); (case U => walk_at "m_units"); k_whole; intro tk' h' tk'' F' N'; (try k_sweep)))
local macro_rules | `(tactic| walk_at "call ref") => `(tactic| (k_here; (with_reducible show wpAny _ _ (call (Value.ref 222) _ _) _ _ _); refine' Mine.use_int (f := 222) ?c (Mine.ct_pos _ _ _) ?F ?X ?N ?T ?P ?A ?U ?_; (case c => (refine' Mine.calls_of rfl ?e1; (case e1 => exact rfl))); (case F => k_asm); (case X => k_asm); (case N => k_asm); (case T => k_asm); (case P => walk_at "m_cell"); (case A => walk_at "m_room"); (case U => walk_at "m_units"); k_whole; intro tk' h' tk'' F' N'; (try k_sweep)))
local macro_rules | `(tactic| walk_at "call ref") => `(tactic| (k_here; (with_reducible show wpAny _ _ (call (Value.ref 229) _ _) _ _ _); refine' Mine.use_bool (f := 229) ?c (Mine.ct_is_leaf _ _ _) ?F ?X ?N ?T ?P ?A ?U ?_; (case c => (refine' Mine.calls_of rfl ?e1; (case e1 => exact rfl))); (case F => k_asm); (case X => k_asm); (case N => k_asm); (case T => k_asm); (case P => walk_at "m_cell"); (case A => walk_at "m_room"); (case U => walk_at "m_units"); k_whole; intro h' tk'' F' N'; (try dsimp only [PySem.W.CmpBack]); (try k_sweep)))
local macro_rules | `(tactic| walk_at "call ref") => `(tactic| (k_here; (with_reducible show wpAny _ _ (call (Value.ref 149) _ _) _ _ _); refine' Mine.use_int (f := 149) ?c (Mine.ct_lsbl _ _ _ ?v0 ?v1) ?F ?X ?N ?T ?P ?A ?U ?_; (case c => (refine' Mine.calls_of rfl ?e1; (case e1 => exact rfl))); (case F => k_asm); (case X => k_asm); (case N => k_asm); (case T => k_asm); (case P => trivial); (case v0 => first | assumption | omega); (case v1 => first | assumption | omega); (case A => walk_at "m_room"); (case U => walk_at "m_units"); k_whole; intro tk' h' tk'' F' N'; (try k_sweep)))
local macro_rules | `(tactic| walk_at "call ref") => `(tactic| (k_here; (with_reducible show wpAny _ _ (call (Value.ref _) _ _) _ _ _); refine' Mine.use_int (f := 149) ?c (Mine.ct_lsbl _ _ _ ?v0 ?v1) ?F ?X ?N ?T ?P ?A ?U ?_; (case c => (refine' Mine.calls_meth' ?q2 ?N2 rfl ?e2; (case N2 => k_asm); (case q2 => k_mem); (case e2 => exact rfl))); (case F => k_asm); (case X => k_asm); (case N => k_asm); (case T => k_asm); (case P => trivial); (case v0 => first | assumption | omega); (case v1 => first | assumption | omega); (case A => walk_at "m_room"); (case U => walk_at "m_units"); k_whole; intro tk' h' tk'' F' N'; (try k_sweep)))
local macro_rules | `(tactic| walk_at "call ref") => `(tactic| (k_here; (with_reducible show wpAny _ _ (call (Value.ref 187) _ _) _ _ _); refine' Mine.use_bool (f := 187) ?c (Mine.ct_is_face _ _ _) ?F ?X ?N ?T ?P ?A ?U ?_; (case c => (refine' Mine.calls_of rfl ?e1; (case e1 => exact rfl))); (case F => k_asm); (case X => k_asm); (case N => k_asm); (case T => k_asm); (case P => walk_at "m_cell"); (case A => walk_at "m_room"); (case U => walk_at "m_units"); k_whole; intro h' tk'' F' N'; (try dsimp only [PySem.W.CmpBack]); (try k_sweep)))
local macro_rules | `(tactic| walk_at "call ref") => `(tactic| (k_here; (with_reducible show wpAny _ _ (call (Value.ref 201) _ _) _ _ _); refine' Mine.use_bool (f := 201) ?c (Mine.ct_is_valid _ _ _ ?v0) ?F ?X ?N ?T ?P ?A ?U ?_; (case c => (refine' Mine.calls_of rfl ?e1; (case e1 => exact rfl))); (case F => k_asm); (case X => k_asm); (case N => k_asm); (case T => k_asm); (case P => walk_at "m_cell"); (case v0 => first | assumption | omega); (case A => walk_at "m_room"); (case U => walk_at "m_units"); k_whole; intro h' tk'' F' N'; (try dsimp only [PySem.W.CmpBack]); (try k_sweep)))
local macro_rules | `(tactic| walk_at "call ref") => `(tactic| (k_here; (with_reducible show wpAny _ _ (call (Value.ref 278) _ _) _ _ _); refine' Mine.use_cell (f := 278) ?c (Mine.ct_range_min _ _ _ ?v0) ?F ?X ?N ?T ?P ?A ?U ?_; (case c => (refine' Mine.calls_of rfl ?e1; (case e1 => exact rfl))); (case F => k_asm); (case X => k_asm); (case N => k_asm); (case T => k_asm); (case P => walk_at "m_cell"); (case v0 => first | assumption | omega); (case A => walk_at "m_room"); (case U => walk_at "m_units"); k_whole; intro y' dy' hs' tk1' tn' h' tk'' F' N' O'; (try k_sweep)))
local macro_rules | `(tactic| walk_at "call ref") => `(tactic| (k_here; (with_reducible show wpAny _ _ (call (Value.ref 285) _ _) _ _ _); refine' Mine.use_cell (f := 285) ?c (Mine.ct_range_max _ _ _ ?v0) ?F ?X ?N ?T ?P ?A ?U ?_; (case c => (refine' Mine.calls_of rfl ?e1; (case e1 => exact rfl))); (case F => k_asm); (case X => k_asm); (case N => k_asm); (case T => k_asm); (case P => walk_at "m_cell"); (case v0 => first | assumption | omega); (case A => walk_at "m_room"); (case U => walk_at "m_units"); k_whole; intro y' dy' hs' tk1' tn' h' tk'' F' N' O'; (try k_sweep)))
namespace Mine
open PySem.W
theorem ct_lt (w : World) (x y : Addr) (n k : Int) : Ct w 2 71 [.ref x, .ref y] (fun g h => IsCell g h x n ∧ IsCell g h y k) (fun h h' v => v = .bool (decide (n < k))) := by
  intro A s g mg mb p loose Q G hg ⟨⟨dx, hs, tk, tn, c⟩, ⟨dx2, hs2, tk2, tn2, c2⟩⟩ hA hu h
  refine' enter (binds := [(PySem.Str.ofString "self", .ref x), (PySem.Str.ofString "other", .ref y)]) G hg (olds2 c c2) ?k6 ?k7 ?k8 ?k9 ?kB ?_ ?c2 ?c3 ?c4 ?c5
  case k6 => k_is
  case k7 => k_is
  case k8 => walk_at "m_room"
  case k9 => exact BindsTo.of_eq rfl
  case c5 => decide
  case kB => exact locs rfl
  case c2 => exact rfl
  case c3 => exact rfl
  case c4 => exact rfl
  intro g' L' h₁ F' N' G' gg'
  have X' := G'.X
  have T' := G'.T
  try dsimp only
  k_steps
  all_goals (try k_data)
  all_goals (walk_at "m_end")
  all_goals (intro kk kn; exact h _ _ _ kk (by rfl))
local macro_rules | `(tactic| walk_at "call ref") => `(tactic| (k_here; (with_reducible show wpAny _ _ (call (Value.ref 71) _ _) _ _ _); refine' Mine.use_bool (f := 71) ?c (Mine.ct_lt _ _ _ _ _) ?F ?X ?N ?T ?P ?A ?U ?_; (case c => (refine' Mine.calls_of rfl ?e1; (case e1 => exact rfl))); (case F => k_asm); (case X => k_asm); (case N => k_asm); (case T => k_asm); (case P => exact ⟨by walk_at "m_cell", by walk_at "m_cell"⟩); (case A => walk_at "m_room"); (case U => walk_at "m_units"); k_whole; intro h' tk'' F' N'; (try dsimp only [PySem.W.CmpBack]); (try k_sweep)))
theorem ct_ge (w : World) (x y : Addr) (n k : Int) : Ct w 3 92 [.ref x, .ref y] (fun g h => IsCell g h x n ∧ IsCell g h y k) (fun h h' v => v = .bool (!decide (n < k))) := by
  intro A s g mg mb p loose Q G hg ⟨⟨dx, hs, tk, tn, c⟩, ⟨dx2, hs2, tk2, tn2, c2⟩⟩ hA hu h
  refine' enter (binds := [(PySem.Str.ofString "self", .ref x), (PySem.Str.ofString "other", .ref y)]) G hg (olds2 c c2) ?k6 ?k7 ?k8 ?k9 ?kB ?_ ?c2 ?c3 ?c4 ?c5
  case k6 => k_is
  case k7 => k_is
  case k8 => walk_at "m_room"
  case k9 => exact BindsTo.of_eq rfl
  case c5 => decide
  case kB => exact locs rfl
  case c2 => exact rfl
  case c3 => exact rfl
  case c4 => exact rfl
  intro g' L' h₁ F' N' G' gg'
  have X' := G'.X
  have T' := G'.T
  try dsimp only
  k_steps
  all_goals (try k_data)
  all_goals (walk_at "m_end")
  all_goals (intro kk kn; exact h _ _ _ kk (by rfl))
local macro_rules | `(tactic| walk_at "call ref") => `(tactic| (k_here; (with_reducible show wpAny _ _ (call (Value.ref 92) _ _) _ _ _); refine' Mine.use_bool (f := 92) ?c (Mine.ct_ge _ _ _ _ _) ?F ?X ?N ?T ?P ?A ?U ?_; (case c => (refine' Mine.calls_of rfl ?e1; (case e1 => exact rfl))); (case F => k_asm); (case X => k_asm); (case N => k_asm); (case T => k_asm); (case P => exact ⟨by walk_at "m_cell", by walk_at "m_cell"⟩); (case A => walk_at "m_room"); (case U => walk_at "m_units"); k_whole; intro h' tk'' F' N'; (try dsimp only [PySem.W.CmpBack]); (try k_sweep)))
theorem ct_eq (w : World) (x y : Addr) (n k : Int) : Ct w 2 57 [.ref x, .ref y] (fun g h => IsCell g h x n ∧ IsCell g h y k) (fun h h' v => v = .bool (decide (n = k))) := by
  intro A s g mg mb p loose Q G hg ⟨⟨dx, hs, tk, tn, c⟩, ⟨dx2, hs2, tk2, tn2, c2⟩⟩ hA hu h
  refine' enter (binds := [(PySem.Str.ofString "self", .ref x), (PySem.Str.ofString "other", .ref y)]) G hg (olds2 c c2) ?k6 ?k7 ?k8 ?k9 ?kB ?_ ?c2 ?c3 ?c4 ?c5
  case k6 => k_is
  case k7 => k_is
  case k8 => walk_at "m_room"
  case k9 => exact BindsTo.of_eq rfl
  case c5 => decide
  case kB => exact locs rfl
  case c2 => exact rfl
  case c3 => exact rfl
  case c4 => exact rfl
  intro g' L' h₁ F' N' G' gg'
  have X' := G'.X
  have T' := G'.T
  try dsimp only
  k_steps
  all_goals (try k_data)
  all_goals (walk_at "m_end")
  all_goals (intro kk kn; exact h _ _ _ kk (by first | rfl | (simp; done) | (simp_all; done)))
local macro_rules | `(tactic| walk_at "call ref") => `(tactic| (k_here; (with_reducible show wpAny _ _ (call (Value.ref 57) _ _) _ _ _); refine' Mine.use_bool (f := 57) ?c (Mine.ct_eq _ _ _ _ _) ?F ?X ?N ?T ?P ?A ?U ?_; (case c => (refine' Mine.calls_of rfl ?e1; (case e1 => exact rfl))); (case F => k_asm); (case X => k_asm); (case N => k_asm); (case T => k_asm); (case P => exact ⟨by walk_at "m_cell", by walk_at "m_cell"⟩); (case A => walk_at "m_room"); (case U => walk_at "m_units"); k_whole; intro h' tk'' F' N'; (try dsimp only [PySem.W.CmpBack]); (try k_sweep)))
theorem ct_le (w : World) (x y : Addr) (n k : Int) : Ct w 3 78 [.ref x, .ref y] (fun g h => IsCell g h x n ∧ IsCell g h y k) (fun h h' v => v = .bool (decide (n ≤ k))) := by
  intro A s g mg mb p loose Q G hg ⟨⟨dx, hs, tk, tn, c⟩, ⟨dx2, hs2, tk2, tn2, c2⟩⟩ hA hu h
  refine' enter (binds := [(PySem.Str.ofString "self", .ref x), (PySem.Str.ofString "other", .ref y)]) G hg (olds2 c c2) ?k6 ?k7 ?k8 ?k9 ?kB ?_ ?c2 ?c3 ?c4 ?c5
  case k6 => k_is
  case k7 => k_is
  case k8 => walk_at "m_room"
  case k9 => exact BindsTo.of_eq rfl
  case c5 => decide
  case kB => exact locs rfl
  case c2 => exact rfl
  case c3 => exact rfl
  case c4 => exact rfl
  intro g' L' h₁ F' N' G' gg'
  have X' := G'.X
  have T' := G'.T
  try dsimp only
  k_steps
  all_goals (try k_data)
  all_goals (walk_at "m_end")
  all_goals (intro kk kn; exact h _ _ _ kk (by (simp only [Value.bool.injEq]; simp_all; try omega)))
local macro_rules | `(tactic| walk_at "call ref") => `(tactic| (k_here; (with_reducible show wpAny _ _ (call (Value.ref 78) _ _) _ _ _); refine' Mine.use_bool (f := 78) ?c (Mine.ct_le _ _ _ _ _) ?F ?X ?N ?T ?P ?A ?U ?_; (case c => (refine' Mine.calls_of rfl ?e1; (case e1 => exact rfl))); (case F => k_asm); (case X => k_asm); (case N => k_asm); (case T => k_asm); (case P => exact ⟨by walk_at "m_cell", by walk_at "m_cell"⟩); (case A => walk_at "m_room"); (case U => walk_at "m_units"); k_whole; intro h' tk'' F' N'; (try dsimp only [PySem.W.CmpBack]); (try k_sweep)))
theorem ct_ne (w : World) (x y : Addr) (n k : Int) : Ct w 3 64 [.ref x, .ref y] (fun g h => IsCell g h x n ∧ IsCell g h y k) (fun h h' v => v = .bool (!decide (n = k))) := by
  intro A s g mg mb p loose Q G hg ⟨⟨dx, hs, tk, tn, c⟩, ⟨dx2, hs2, tk2, tn2, c2⟩⟩ hA hu h
  refine' enter (binds := [(PySem.Str.ofString "self", .ref x), (PySem.Str.ofString "other", .ref y)]) G hg (olds2 c c2) ?k6 ?k7 ?k8 ?k9 ?kB ?_ ?c2 ?c3 ?c4 ?c5
  case k6 => k_is
  case k7 => k_is
  case k8 => walk_at "m_room"
  case k9 => exact BindsTo.of_eq rfl
  case c5 => decide
  case kB => exact locs rfl
  case c2 => exact rfl
  case c3 => exact rfl
  case c4 => exact rfl
  intro g' L' h₁ F' N' G' gg'
  have X' := G'.X
  have T' := G'.T
  try dsimp only
  k_steps
  all_goals (try k_data)
  all_goals (walk_at "m_end")
  all_goals (intro kk kn; exact h _ _ _ kk (by first | rfl | (simp_all; done)))
local macro_rules | `(tactic| walk_at "call ref") => `(tactic| (k_here; (with_reducible show wpAny _ _ (call (Value.ref 64) _ _) _ _ _); refine' Mine.use_bool (f := 64) ?c (Mine.ct_ne _ _ _ _ _) ?F ?X ?N ?T ?P ?A ?U ?_; (case c => (refine' Mine.calls_of rfl ?e1; (case e1 => exact rfl))); (case F => k_asm); (case X => k_asm); (case N => k_asm); (case T => k_asm); (case P => exact ⟨by walk_at "m_cell", by walk_at "m_cell"⟩); (case A => walk_at "m_room"); (case U => walk_at "m_units"); k_whole; intro h' tk'' F' N'; (try dsimp only [PySem.W.CmpBack]); (try k_sweep)))
end Mine
-- part M3
local macro_rules | `(tactic| walk_at "call ref") => `(tactic| (k_here; (with_reducible show wpAny _ _ (call (Value.ref 71) _ _) _ _ _); refine' Mine.use_bool (f := 71) ?c (Mine.ct_lt _ _ _ _ _) ?F ?X ?N ?T ?P ?A ?U ?_; (case c => (refine' Mine.calls_of rfl ?e1; (case e1 => exact rfl))); (case F => k_asm); (case X => k_asm); (case N => k_asm); (case T => k_asm); (case P => exact ⟨by walk_at "m_cell", by walk_at "m_cell"⟩); (case A => walk_at "m_room"); (case U => walk_at "m_units"); k_whole; intro h' tk'' F' N'; (try dsimp only [PySem.W.CmpBack]); (try k_sweep)))
local macro_rules | `(tactic| walk_at "call ref") => `(tactic| (k_here; (with_reducible show wpAny _ _ (call (Value.ref 92) _ _) _ _ _); refine' Mine.use_bool (f := 92) ?c (Mine.ct_ge _ _ _ _ _) ?F ?X ?N ?T ?P ?A ?U ?_; (case c => (refine' Mine.calls_of rfl ?e1; (case e1 => exact rfl))); (case F => k_asm); (case X => k_asm); (case N => k_asm); (case T => k_asm); (case P => exact ⟨by walk_at "m_cell", by walk_at "m_cell"⟩); (case A => walk_at "m_room"); (case U => walk_at "m_units"); k_whole; intro h' tk'' F' N'; (try dsimp only [PySem.W.CmpBack]); (try k_sweep)))
local macro_rules | `(tactic| walk_at "call ref") => `(tactic| (k_here; (with_reducible show wpAny _ _ (call (Value.ref 57) _ _) _ _ _); refine' Mine.use_bool (f := 57) ?c (Mine.ct_eq _ _ _ _ _) ?F ?X ?N ?T ?P ?A ?U ?_; (case c => (refine' Mine.calls_of rfl ?e1; (case e1 => exact rfl))); (case F => k_asm); (case X => k_asm); (case N => k_asm); (case T => k_asm); (case P => exact ⟨by walk_at "m_cell", by walk_at "m_cell"⟩); (case A => walk_at "m_room"); (case U => walk_at "m_units"); k_whole; intro h' tk'' F' N'; (try dsimp only [PySem.W.CmpBack]); (try k_sweep)))
local macro_rules | `(tactic| walk_at "call ref") => `(tactic| (k_here; (with_reducible show wpAny _ _ (call (Value.ref 78) _ _) _ _ _); refine' Mine.use_bool (f := 78) ?c (Mine.ct_le _ _ _ _ _) ?F ?X ?N ?T ?P ?A ?U ?_; (case c => (refine' Mine.calls_of rfl ?e1; (case e1 => exact rfl))); (case F => k_asm); (case X => k_asm); (case N => k_asm); (case T => k_asm); (case P => exact ⟨by walk_at "m_cell", by walk_at "m_cell"⟩); (case A => walk_at "m_room"); (case U => walk_at "m_units"); k_whole; intro h' tk'' F' N'; (try dsimp only [PySem.W.CmpBack]); (try k_sweep)))
local macro_rules | `(tactic| walk_at "call ref") => `(tactic| (k_here; (with_reducible show wpAny _ _ (call (Value.ref 64) _ _) _ _ _); refine' Mine.use_bool (f := 64) ?c (Mine.ct_ne _ _ _ _ _) ?F ?X ?N ?T ?P ?A ?U ?_; (case c => (refine' Mine.calls_of rfl ?e1; (case e1 => exact rfl))); (case F => k_asm); (case X => k_asm); (case N => k_asm); (case T => k_asm); (case P => exact ⟨by walk_at "m_cell", by walk_at "m_cell"⟩); (case A => walk_at "m_room"); (case U => walk_at "m_units"); k_whole; intro h' tk'' F' N'; (try dsimp only [PySem.W.CmpBack]); (try k_sweep)))
namespace Mine
open PySem.W
theorem lvl_if {w : World} {A : Around} {s : Shared} {h₀ : Heap} {L a : Addr} {m : Str → Option Value} {news : List (Addr × Obj)} {q : Str} {sc : Scope} {cd : Value} {Q : Flow → Shared → Prop} {E : Value → Shared → Prop} {y lv c k : Int} {t t2 : Tok} {k0 k1 : Nat} {p1 p2 p3 p4 p5 p6 p7 : Pos}
    (F : Fr h₀ L s.heap m) (N : News h₀ L s.heap news) (hx : m (PySem.Str.ofString "x") = some (.int y t)) (hl : m (PySem.Str.ofString "level") = some (.int lv t2))
    (hk : sc.kind = .function) (k1' : (envOf q sc L a cd).kindOf (PySem.Str.ofString "x") = some .local) (k2' : (envOf q sc L a cd).kindOf (PySem.Str.ofString "level") = some .local)
    (h : ∀ r t3 h' tk', r = lv + (if (Builtin.bitAnd y c != 0) = true then k else 0) → Fr h₀ L h' (fun z => if z = PySem.Str.ofString "level" then some (.int r t3) else m z) → News h₀ L h' news → Q .next { s with heap := h', toks := tk' }) :
    wpAny (model PR w) A (exec (.If (.BinOp (.Name (PySem.Str.ofString "x") p1) .BitAnd (.Constant (.int c) k0 p2) p3) [.AugAssign (.Name (PySem.Str.ofString "level") p4) .Add (.Constant (.int k) k1 p5) p6] [] p7) (envOf q sc L a cd)) Q E s := by
  refine wpAny_If (isTrue_plain (wpAny_BinOp (ld F hx (wpAny_Constant_int (PyProof.Rows.and_int (PyProof.Rows.truthy_int ?_))) hk k1' (by decide +kernel))))
  by_cases hc : (Builtin.bitAnd y c != 0) = true
  · rw [if_pos hc]
    refine wpAny_execs_cons (wpAny_AugAssign_Name (ldn (s := { s with toks := _ }) F hl (wpAny_Constant_int (PyProof.Rows.iadd_int (stN (s := { s with toks := _ }) F N (fun h' F' N' => wpAny_execs_nil (h (lv + k) _ h' _ ?_ F' N')) hk k2'))) hk k2'))
    rw [if_pos hc]
  · rw [if_neg hc]
    have e : (fun z => if z = PySem.Str.ofString "level" then some (Value.int lv t2) else m z) = m := by
      funext z
      by_cases hz : z = PySem.Str.ofString "level"
      · rw [if_pos hz, hz, hl]
      · rw [if_neg hz]
    refine wpAny_execs_nil (h lv t2 s.heap _ ?_ (by rw [e]; exact F) N)
    rw [if_neg hc]; omega
local macro_rules | `(tactic| walk_at "exec If") => `(tactic| (k_here; (with_reducible show wpAny _ _ (exec (Stmt.If (Expr.BinOp _ _ _ _) _ _ _) _) _ _ _); k_dflt (refine' Mine.lvl_if ?F ?N ?x ?l ?K ?K1 ?K2 ?_; (case F => k_asm); (case N => k_asm); (case x => exact rfl); (case l => exact rfl); (case K => exact rfl); (case K1 => exact rfl); (case K2 => exact rfl); k_whole; intro r' t3' h' tk'' er' F' N'; (try k_sweep))))
def lvs (y b : Int) : Int := b + (if (Builtin.bitAnd y 21845 != 0) = true then 8 else 0) + (if (Builtin.bitAnd y 5570645 != 0) = true then 4 else 0) + (if (Builtin.bitAnd y 84215045 != 0) = true then 2 else 0) + (if (Builtin.bitAnd y 286331153 != 0) = true then 1 else 0)
def xlo (n : Int) : Int := Builtin.bitAnd n 4294967295
def xhi (n : Int) : Int := Builtin.bitAnd (n.fdiv (2 ^ Int.toNat 32)) 4294967295
inductive Lv (n L : Int) : Prop where
  | leaf (h : lfb n = true) (e : L = 30)
  | low (h : lfb n = false) (x : xlo n ≠ 0) (e : L = lvs (Builtin.bitAnd (xlo n) (-xlo n)) (-1 + 16)) (h0 : 0 ≤ L) (h1 : L ≤ 30)
  | high (h : lfb n = false) (x : xlo n = 0) (e : L = lvs (Builtin.bitAnd (xhi n) (-xhi n)) (-1)) (h0 : 0 ≤ L) (h1 : L ≤ 30)
theorem ct_level (w : World) (x : Addr) (n l : Int) (V : Lv n l) : Ct w 3 236 [.ref x] (fun g h => IsCell g h x n) (fun h h' v => ∃ tk, v = .int l tk) := by
  intro A s g mg mb p loose Q G hg ⟨dx, hs, tk, tn, c⟩ hA hu h
  refine' enter (binds := [(PySem.Str.ofString "self", .ref x)]) G hg (olds1 c) ?k6 ?k7 ?k8 ?k9 ?kB ?_ ?c2 ?c3 ?c4 ?c5
  case k6 => k_is
  case k7 => k_is
  case k8 => walk_at "m_room"
  case k9 => exact BindsTo.of_eq rfl
  case c5 => decide
  case kB => exact locs rfl
  case c2 => exact rfl
  case c3 => exact rfl
  case c4 => exact rfl
  intro g' L' h₁ F' N' G' gg'
  have X' := G'.X
  have T' := G'.T
  try dsimp only
  rcases V with ⟨v1, v2⟩ | ⟨v1, v2, v3, v4, v5⟩ | ⟨v1, v2, v3, v4, v5⟩
  · k_steps
    all_goals (try k_data)
    walk_at "m_end"
    intro k kn
    exact h _ _ _ k ⟨_, by rw [v2]⟩
  · unfold lvs at v3
    unfold xlo at v2 v3
    have v6 : (Builtin.bitAnd n 4294967295 != 0) = true := by simpa using v2
    k_steps
    all_goals (try k_data)
    walk_at "m_end"
    intro k kn
    refine h _ _ _ k ⟨_, congrArg (Value.int · _) ?_⟩
    omega
  · unfold lvs at v3
    unfold xhi at v3
    unfold xlo at v2
    have v6 : (Builtin.bitAnd n 4294967295 != 0) = false := by simpa using v2
    k_steps
    all_goals (try k_data)
    walk_at "m_end"
    intro k kn
    refine h _ _ _ k ⟨_, congrArg (Value.int · _) ?_⟩
    omega
end Mine
-- part M4
local macro_rules | `(tactic| walk_at "call ref") => `(tactic| (k_here; (with_reducible show wpAny _ _ (call (Value.ref 236) _ _) _ _ _); refine' Mine.use_int (f := 236) ?c (Mine.ct_level _ _ _ _ ?v0) ?F ?X ?N ?T ?P ?A ?U ?_; (case c => (refine' Mine.calls_of rfl ?e1; (case e1 => exact rfl))); (case F => k_asm); (case X => k_asm); (case N => k_asm); (case T => k_asm); (case P => walk_at "m_cell"); (case v0 => first | assumption | omega); (case A => walk_at "m_room"); (case U => walk_at "m_units"); k_whole; intro tk' h' tk'' F' N'; (try k_sweep)))
namespace Mine
open PySem.W
theorem ct_contains (w : World) (x y : Addr) (n k : Int) (V : Vd n) (W : Vd k) : Ct w 6 173 [.ref x, .ref y] (fun g h => IsCell g h x n ∧ IsCell g h y k) (fun h h' v => v = .bool (decide (n - (lw n - 1) ≤ k ∧ k ≤ n + (lw n - 1)))) := by
  intro A s g mg mb p loose Q G hg ⟨⟨dx, hs, tk, tn, c⟩, ⟨dx2, hs2, tk2, tn2, c2⟩⟩ hA hu h
  refine' enter (binds := [(PySem.Str.ofString "self", .ref x), (PySem.Str.ofString "other", .ref y)]) G hg (olds2 c c2) ?k6 ?k7 ?k8 ?k9 ?kB ?_ ?c2 ?c3 ?c4 ?c5
  case k6 => k_is
  case k7 => k_is
  case k8 => walk_at "m_room"
  case k9 => exact BindsTo.of_eq rfl
  case c5 => decide
  case kB => exact locs rfl
  case c2 => exact rfl
  case c3 => exact rfl
  case c4 => exact rfl
  intro g' L' h₁ F' N' G' gg'
  have X' := G'.X
  have T' := G'.T
  try dsimp only
  k_steps
  all_goals (try k_data)
  all_goals (walk_at "m_end")
  all_goals (intro kk kn; refine h _ _ _ kk (congrArg Value.bool ?_); clear h kn; rw [Bool.eq_iff_iff]; (try simp only [decide_eq_true_eq, decide_eq_false_iff_not, Bool.not_eq_true', Bool.false_eq_true, iff_true, true_iff, iff_false, false_iff, eq_self] at *); omega)
local macro_rules | `(tactic| walk_at "call ref") => `(tactic| (k_here; (with_reducible show wpAny _ _ (call (Value.ref 173) _ _) _ _ _); refine' Mine.use_bool (f := 173) ?c (Mine.ct_contains _ _ _ _ _ ?v0 ?v1) ?F ?X ?N ?T ?P ?A ?U ?_; (case c => (refine' Mine.calls_of rfl ?e1; (case e1 => exact rfl))); (case F => k_asm); (case X => k_asm); (case N => k_asm); (case T => k_asm); (case P => exact ⟨by walk_at "m_cell", by walk_at "m_cell"⟩); (case v0 => first | assumption | omega); (case v1 => first | assumption | omega); (case A => walk_at "m_room"); (case U => walk_at "m_units"); k_whole; intro h' tk'' F' N'; (try dsimp only [PySem.W.CmpBack]); (try k_sweep)))
theorem ct_intersects (w : World) (x y : Addr) (n k : Int) (V : Vd n) (W : Vd k) : Ct w 6 180 [.ref x, .ref y] (fun g h => IsCell g h x n ∧ IsCell g h y k) (fun h h' v => v = .bool (decide (k - (lw k - 1) ≤ n + (lw n - 1) ∧ n - (lw n - 1) ≤ k + (lw k - 1)))) := by
  intro A s g mg mb p loose Q G hg ⟨⟨dx, hs, tk, tn, c⟩, ⟨dx2, hs2, tk2, tn2, c2⟩⟩ hA hu h
  refine' enter (binds := [(PySem.Str.ofString "self", .ref x), (PySem.Str.ofString "other", .ref y)]) G hg (olds2 c c2) ?k6 ?k7 ?k8 ?k9 ?kB ?_ ?c2 ?c3 ?c4 ?c5
  case k6 => k_is
  case k7 => k_is
  case k8 => walk_at "m_room"
  case k9 => exact BindsTo.of_eq rfl
  case c5 => decide
  case kB => exact locs rfl
  case c2 => exact rfl
  case c3 => exact rfl
  case c4 => exact rfl
  intro g' L' h₁ F' N' G' gg'
  have X' := G'.X
  have T' := G'.T
  try dsimp only
  k_steps
  all_goals (try k_data)
  all_goals (walk_at "m_end")
  all_goals (intro kk kn; refine h _ _ _ kk (congrArg Value.bool ?_); clear h kn; rw [Bool.eq_iff_iff]; (try simp only [decide_eq_true_eq, decide_eq_false_iff_not, Bool.not_eq_true', Bool.false_eq_true, iff_true, true_iff, iff_false, false_iff, eq_self] at *); omega)
local macro_rules | `(tactic| walk_at "call ref") => `(tactic| (k_here; (with_reducible show wpAny _ _ (call (Value.ref 180) _ _) _ _ _); refine' Mine.use_bool (f := 180) ?c (Mine.ct_intersects _ _ _ _ _ ?v0 ?v1) ?F ?X ?N ?T ?P ?A ?U ?_; (case c => (refine' Mine.calls_of rfl ?e1; (case e1 => exact rfl))); (case F => k_asm); (case X => k_asm); (case N => k_asm); (case T => k_asm); (case P => exact ⟨by walk_at "m_cell", by walk_at "m_cell"⟩); (case v0 => first | assumption | omega); (case v1 => first | assumption | omega); (case A => walk_at "m_room"); (case U => walk_at "m_units"); k_whole; intro h' tk'' F' N'; (try dsimp only [PySem.W.CmpBack]); (try k_sweep)))
theorem ct_child (w : World) (x : Addr) (n i : Int) (t : Tok) (V : Vd n) (hl : lfb n = false) (h0 : 0 ≤ n + (2 * i + 1 - 4) * (lw n).fdiv (2 ^ Int.toNat 2)) (h1 : n + (2 * i + 1 - 4) * (lw n).fdiv (2 ^ Int.toNat 2) < 18446744073709551615) (hi : 0 ≤ i) (hi4 : i < 4) : Ct w 6 166 [.ref x, .int i t] (fun g h => IsCell g h x n) (fun h h' v => NewC h h' v (n + (2 * i + 1 - 4) * (lw n).fdiv (2 ^ Int.toNat 2))) := by
  intro A s g mg mb p loose Q G hg ⟨dx, hs, tk, tn, c⟩ hA hu h
  refine' enter (binds := [(PySem.Str.ofString "self", .ref x), (PySem.Str.ofString "pos", .int i t)]) G hg (olds1 c) ?k6 ?k7 ?k8 ?k9 ?kB ?_ ?c2 ?c3 ?c4 ?c5
  case k6 => k_is
  case k7 => k_is
  case k8 => walk_at "m_room"
  case k9 => exact BindsTo.of_eq rfl
  case c5 => decide
  case kB => exact locs rfl
  case c2 => exact rfl
  case c3 => exact rfl
  case c4 => exact rfl
  intro g' L' h₁ F' N' G' gg'
  have X' := G'.X
  have T' := G'.T
  try dsimp only
  k_steps
  all_goals (try k_data)
  walk_at "m_end"
  intro k kn
  exact h _ _ _ k ⟨_, rfl, isCell_end (by k_asm) kn (by k_mem) (by k_mem) (by assumption) (by k_sub)⟩
theorem ct_next (w : World) (x : Addr) (n : Int) (h0 : 0 ≤ n + (lw n) * 2 ^ Int.toNat 1) (h1 : n + (lw n) * 2 ^ Int.toNat 1 < 18446744073709551615) (h2 : 0 ≤ lw n) (h3 : lw n < 18446744073709551615) : Ct w 4 264 [.ref x] (fun g h => IsCell g h x n) (fun h h' v => NewC h h' v (n + (lw n) * 2 ^ Int.toNat 1)) := by
  intro A s g mg mb p loose Q G hg ⟨dx, hs, tk, tn, c⟩ hA hu h
  refine' enter (binds := [(PySem.Str.ofString "self", .ref x)]) G hg (olds1 c) ?k6 ?k7 ?k8 ?k9 ?kB ?_ ?c2 ?c3 ?c4 ?c5
  case k6 => k_is
  case k7 => k_is
  case k8 => walk_at "m_room"
  case k9 => exact BindsTo.of_eq rfl
  case c5 => decide
  case kB => exact locs rfl
  case c2 => exact rfl
  case c3 => exact rfl
  case c4 => exact rfl
  intro g' L' h₁ F' N' G' gg'
  have X' := G'.X
  have T' := G'.T
  try dsimp only
  k_steps
  all_goals (try k_data)
  walk_at "m_end"
  intro k kn
  exact h _ _ _ k ⟨_, rfl, isCell_end (by k_asm) kn (by k_mem) (by k_mem) (by assumption) (by k_sub)⟩
end Mine
-- part M5
local macro_rules | `(tactic| walk_at "call ref") => `(tactic| (k_here; (with_reducible show wpAny _ _ (call (Value.ref 173) _ _) _ _ _); refine' Mine.use_bool (f := 173) ?c (Mine.ct_contains _ _ _ _ _ ?v0 ?v1) ?F ?X ?N ?T ?P ?A ?U ?_; (case c => (refine' Mine.calls_of rfl ?e1; (case e1 => exact rfl))); (case F => k_asm); (case X => k_asm); (case N => k_asm); (case T => k_asm); (case P => exact ⟨by walk_at "m_cell", by walk_at "m_cell"⟩); (case v0 => first | assumption | omega); (case v1 => first | assumption | omega); (case A => walk_at "m_room"); (case U => walk_at "m_units"); k_whole; intro h' tk'' F' N'; (try dsimp only [PySem.W.CmpBack]); (try k_sweep)))
local macro_rules | `(tactic| walk_at "call ref") => `(tactic| (k_here; (with_reducible show wpAny _ _ (call (Value.ref 180) _ _) _ _ _); refine' Mine.use_bool (f := 180) ?c (Mine.ct_intersects _ _ _ _ _ ?v0 ?v1) ?F ?X ?N ?T ?P ?A ?U ?_; (case c => (refine' Mine.calls_of rfl ?e1; (case e1 => exact rfl))); (case F => k_asm); (case X => k_asm); (case N => k_asm); (case T => k_asm); (case P => exact ⟨by walk_at "m_cell", by walk_at "m_cell"⟩); (case v0 => first | assumption | omega); (case v1 => first | assumption | omega); (case A => walk_at "m_room"); (case U => walk_at "m_units"); k_whole; intro h' tk'' F' N'; (try dsimp only [PySem.W.CmpBack]); (try k_sweep)))
namespace Mine
open PySem.W
def ptn (n z : Int) : Int := Builtin.bitOr (Builtin.bitAnd n (-z)) z
theorem ct_parent0 (w : World) (x : Addr) (n : Int) (V : Vd n) (hf : fcb n = false) (h0 : 0 ≤ Builtin.bitOr (Builtin.bitAnd n (-(lw n * 2 ^ Int.toNat 2))) (lw n * 2 ^ Int.toNat 2)) (h1 : Builtin.bitOr (Builtin.bitAnd n (-(lw n * 2 ^ Int.toNat 2))) (lw n * 2 ^ Int.toNat 2) < 18446744073709551615) (h2 : 0 ≤ lw n) (h3 : lw n < 18446744073709551615) : Ct w 6 159 [.ref x] (fun g h => IsCell g h x n) (fun h h' v => NewC h h' v (Builtin.bitOr (Builtin.bitAnd n (-(lw n * 2 ^ Int.toNat 2))) (lw n * 2 ^ Int.toNat 2))) := by
  intro A s g mg mb p loose Q G hg ⟨dx, hs, tk, tn, c⟩ hA hu h
  refine' enterV (binds := fun D => [(PySem.Str.ofString "self", .ref x), (PySem.Str.ofString "args", .ref D)]) G hg (olds1 c) ?k6 ?k7 ?k8 ?kP ?kG ?kB ?_ ?c2 ?c3 ?c4 ?c5
  case k6 => k_is
  case k7 => k_is
  case k8 => walk_at "m_room"
  case kP => exact rfl
  case kG => exact fun _ => rfl
  case c5 => decide
  case kB => exact fun _ => locs rfl
  case c2 => exact rfl
  case c3 => exact rfl
  case c4 => exact rfl
  intro D' g' L' h₁ tk0' F' N' G' gg' l1'
  have X' := G'.X
  have T' := G'.T
  try dsimp only
  k_steps
  all_goals (try k_data)
  walk_at "m_end"
  intro k kn
  exact h _ _ _ k ⟨_, rfl, isCell_end (by k_asm) kn (by k_mem) (by k_mem) (by assumption) (by k_sub)⟩
theorem ct_parent1 (w : World) (x : Addr) (n l m : Int) (t : Tok) (V : Vd n) (W : Lv n m) (h0 : 0 ≤ Builtin.bitOr (Builtin.bitAnd n (-(lz l))) (lz l)) (h1 : Builtin.bitOr (Builtin.bitAnd n (-(lz l))) (lz l) < 18446744073709551615) (h2 : 0 ≤ l) (h3 : l ≤ m) (h4 : m ≤ 30) : Ct w 6 159 [.ref x, .int l t] (fun g h => IsCell g h x n) (fun h h' v => NewC h h' v (Builtin.bitOr (Builtin.bitAnd n (-(lz l))) (lz l))) := by
  intro A s g mg mb p loose Q G hg ⟨dx, hs, tk, tn, c⟩ hA hu h
  refine' enterV (binds := fun D => [(PySem.Str.ofString "self", .ref x), (PySem.Str.ofString "args", .ref D)]) G hg (olds1 c) ?k6 ?k7 ?k8 ?kP ?kG ?kB ?_ ?c2 ?c3 ?c4 ?c5
  case k6 => k_is
  case k7 => k_is
  case k8 => walk_at "m_room"
  case kP => exact rfl
  case kG => exact fun _ => rfl
  case c5 => decide
  case kB => exact fun _ => locs rfl
  case c2 => exact rfl
  case c3 => exact rfl
  case c4 => exact rfl
  intro D' g' L' h₁ tk0' F' N' G' gg' l1'
  have X' := G'.X
  have T' := G'.T
  try dsimp only
  k_steps
  all_goals (try k_data)
  walk_at "m_end"
  intro k kn
  exact h _ _ _ k ⟨_, rfl, isCell_end (by k_asm) kn (by k_mem) (by k_mem) (by assumption) (by k_sub)⟩
local macro_rules | `(tactic| walk_at "call ref") => `(tactic| (k_here; (with_reducible show wpAny _ _ (call (Value.ref 159) _ _) _ _ _); refine' Mine.use_cell (f := 159) ?c (Mine.ct_parent1 _ _ _ _ _ _ ?v0 ?v1 ?v2 ?v3 ?v4 ?v5 ?v6) ?F ?X ?N ?T ?P ?A ?U ?_; (case c => (refine' Mine.calls_of rfl ?e1; (case e1 => exact rfl))); (case F => k_asm); (case X => k_asm); (case N => k_asm); (case T => k_asm); (case P => walk_at "m_cell"); (case v0 => first | assumption | omega); (case v1 => first | assumption | omega); (case v2 => first | assumption | omega); (case v3 => first | assumption | omega); (case v4 => first | assumption | omega); (case v5 => first | assumption | omega); (case v6 => first | assumption | omega); (case A => walk_at "m_room"); (case U => walk_at "m_units"); k_whole; intro y' dy' hs' tk1' tn' h' tk'' F' N' O'; (try k_sweep)))
theorem ct_cb0 (w : World) (x : Addr) (n : Int) (V : Vd n) (hf : lfb n = false) (h0 : 0 ≤ n - lw n + (lw n).fdiv (2 ^ Int.toNat 2)) (h1 : n - lw n + (lw n).fdiv (2 ^ Int.toNat 2) < 18446744073709551615) : Ct w 6 243 [.ref x] (fun g h => IsCell g h x n) (fun h h' v => NewC h h' v (n - lw n + (lw n).fdiv (2 ^ Int.toNat 2))) := by
  intro A s g mg mb p loose Q G hg ⟨dx, hs, tk, tn, c⟩ hA hu h
  refine' enterV (binds := fun D => [(PySem.Str.ofString "self", .ref x), (PySem.Str.ofString "args", .ref D)]) G hg (olds1 c) ?k6 ?k7 ?k8 ?kP ?kG ?kB ?_ ?c2 ?c3 ?c4 ?c5
  case k6 => k_is
  case k7 => k_is
  case k8 => walk_at "m_room"
  case kP => exact rfl
  case kG => exact fun _ => rfl
  case c5 => decide
  case kB => exact fun _ => locs rfl
  case c2 => exact rfl
  case c3 => exact rfl
  case c4 => exact rfl
  intro D' g' L' h₁ tk0' F' N' G' gg' l1'
  have X' := G'.X
  have T' := G'.T
  try dsimp only
  k_steps
  all_goals (try k_data)
  walk_at "m_end"
  intro k kn
  exact h _ _ _ k ⟨_, rfl, isCell_end (by k_asm) kn (by k_mem) (by k_mem) (by assumption) (by k_sub)⟩
theorem ct_cb1 (w : World) (x : Addr) (n l m : Int) (t : Tok) (V : Vd n) (W : Lv n m) (h0 : 0 ≤ n - lw n + lz l) (h1 : n - lw n + lz l < 18446744073709551615) (h2 : m ≤ l) (h3 : l ≤ 30) (h4 : 0 ≤ l) : Ct w 6 243 [.ref x, .int l t] (fun g h => IsCell g h x n) (fun h h' v => NewC h h' v (n - lw n + lz l)) := by
  intro A s g mg mb p loose Q G hg ⟨dx, hs, tk, tn, c⟩ hA hu h
  refine' enterV (binds := fun D => [(PySem.Str.ofString "self", .ref x), (PySem.Str.ofString "args", .ref D)]) G hg (olds1 c) ?k6 ?k7 ?k8 ?kP ?kG ?kB ?_ ?c2 ?c3 ?c4 ?c5
  case k6 => k_is
  case k7 => k_is
  case k8 => walk_at "m_room"
  case kP => exact rfl
  case kG => exact fun _ => rfl
  case c5 => decide
  case kB => exact fun _ => locs rfl
  case c2 => exact rfl
  case c3 => exact rfl
  case c4 => exact rfl
  intro D' g' L' h₁ tk0' F' N' G' gg' l1'
  have X' := G'.X
  have T' := G'.T
  try dsimp only
  k_steps
  all_goals (try k_data)
  walk_at "m_end"
  intro k kn
  exact h _ _ _ k ⟨_, rfl, isCell_end (by k_asm) kn (by k_mem) (by k_mem) (by assumption) (by k_sub)⟩
theorem ct_ce0 (w : World) (x : Addr) (n : Int) (V : Vd n) (hf : lfb n = false) (h0 : 0 ≤ n + lw n + (lw n).fdiv (2 ^ Int.toNat 2)) (h1 : n + lw n + (lw n).fdiv (2 ^ Int.toNat 2) < 18446744073709551615) : Ct w 6 250 [.ref x] (fun g h => IsCell g h x n) (fun h h' v => NewC h h' v (n + lw n + (lw n).fdiv (2 ^ Int.toNat 2))) := by
  intro A s g mg mb p loose Q G hg ⟨dx, hs, tk, tn, c⟩ hA hu h
  refine' enterV (binds := fun D => [(PySem.Str.ofString "self", .ref x), (PySem.Str.ofString "args", .ref D)]) G hg (olds1 c) ?k6 ?k7 ?k8 ?kP ?kG ?kB ?_ ?c2 ?c3 ?c4 ?c5
  case k6 => k_is
  case k7 => k_is
  case k8 => walk_at "m_room"
  case kP => exact rfl
  case kG => exact fun _ => rfl
  case c5 => decide
  case kB => exact fun _ => locs rfl
  case c2 => exact rfl
  case c3 => exact rfl
  case c4 => exact rfl
  intro D' g' L' h₁ tk0' F' N' G' gg' l1'
  have X' := G'.X
  have T' := G'.T
  try dsimp only
  k_steps
  all_goals (try k_data)
  walk_at "m_end"
  intro k kn
  exact h _ _ _ k ⟨_, rfl, isCell_end (by k_asm) kn (by k_mem) (by k_mem) (by assumption) (by k_sub)⟩
theorem ct_ce1 (w : World) (x : Addr) (n l m : Int) (t : Tok) (V : Vd n) (W : Lv n m) (h0 : 0 ≤ n + lw n + lz l) (h1 : n + lw n + lz l < 18446744073709551615) (h2 : m ≤ l) (h3 : l ≤ 30) (h4 : 0 ≤ l) : Ct w 6 250 [.ref x, .int l t] (fun g h => IsCell g h x n) (fun h h' v => NewC h h' v (n + lw n + lz l)) := by
  intro A s g mg mb p loose Q G hg ⟨dx, hs, tk, tn, c⟩ hA hu h
  refine' enterV (binds := fun D => [(PySem.Str.ofString "self", .ref x), (PySem.Str.ofString "args", .ref D)]) G hg (olds1 c) ?k6 ?k7 ?k8 ?kP ?kG ?kB ?_ ?c2 ?c3 ?c4 ?c5
  case k6 => k_is
  case k7 => k_is
  case k8 => walk_at "m_room"
  case kP => exact rfl
  case kG => exact fun _ => rfl
  case c5 => decide
  case kB => exact fun _ => locs rfl
  case c2 => exact rfl
  case c3 => exact rfl
  case c4 => exact rfl
  intro D' g' L' h₁ tk0' F' N' G' gg' l1'
  have X' := G'.X
  have T' := G'.T
  try dsimp only
  k_steps
  all_goals (try k_data)
  walk_at "m_end"
  intro k kn
  exact h _ _ _ k ⟨_, rfl, isCell_end (by k_asm) kn (by k_mem) (by k_mem) (by assumption) (by k_sub)⟩
theorem ct_size0 (w : World) (x : Addr) (n m : Int) (W : Lv n m) (h0 : 0 ≤ m) (h1 : m ≤ 30) : Ct w 6 405 [.ref x] (fun g h => IsCell g h x n) (fun h h' v => ∃ tk, v = .int (1 * 2 ^ (30 - m).toNat) tk) := by
  intro A s g mg mb p loose Q G hg ⟨dx, hs, tk, tn, c⟩ hA hu h
  refine' enterV (binds := fun D => [(PySem.Str.ofString "self", .ref x), (PySem.Str.ofString "args", .ref D)]) G hg (olds1 c) ?k6 ?k7 ?k8 ?kP ?kG ?kB ?_ ?c2 ?c3 ?c4 ?c5
  case k6 => k_is
  case k7 => k_is
  case k8 => walk_at "m_room"
  case kP => exact rfl
  case kG => exact fun _ => rfl
  case c5 => decide
  case kB => exact fun _ => locs rfl
  case c2 => exact rfl
  case c3 => exact rfl
  case c4 => exact rfl
  intro D' g' L' h₁ tk0' F' N' G' gg' l1'
  have X' := G'.X
  have T' := G'.T
  try dsimp only
  k_steps
  all_goals (try k_data)
  walk_at "m_end"
  intro k kn
  exact h _ _ _ k ⟨_, rfl⟩
theorem ct_size1 (w : World) (x : Addr) (n l : Int) (t : Tok) (h0 : 0 ≤ l) (h1 : l ≤ 30) : Ct w 6 405 [.ref x, .int l t] (fun g h => IsCell g h x n) (fun h h' v => ∃ tk, v = .int (1 * 2 ^ (30 - l).toNat) tk) := by
  intro A s g mg mb p loose Q G hg ⟨dx, hs, tk, tn, c⟩ hA hu h
  refine' enterV (binds := fun D => [(PySem.Str.ofString "self", .ref x), (PySem.Str.ofString "args", .ref D)]) G hg (olds1 c) ?k6 ?k7 ?k8 ?kP ?kG ?kB ?_ ?c2 ?c3 ?c4 ?c5
  case k6 => k_is
  case k7 => k_is
  case k8 => walk_at "m_room"
  case kP => exact rfl
  case kG => exact fun _ => rfl
  case c5 => decide
  case kB => exact fun _ => locs rfl
  case c2 => exact rfl
  case c3 => exact rfl
  case c4 => exact rfl
  intro D' g' L' h₁ tk0' F' N' G' gg' l1'
  have X' := G'.X
  have T' := G'.T
  try dsimp only
  k_steps
  all_goals (try k_data)
  walk_at "m_end"
  intro k kn
  exact h _ _ _ k ⟨_, rfl⟩
theorem ct_law_id (w : World) (q l : Int) (t t2 : Tok) (h0 : 0 ≤ l) (h1 : l ≤ 30) (h2 : 0 ≤ q) (h3 : q ≤ 6917529027641081856) : Ct w 1 436 [.int q t, .int l t2] (fun _ _ => True) (fun h h' v => ∃ tk, v = .int ((2 * q + 1) * 4 ^ (30 - l).toNat) tk) := by
  intro A s g mg mb p loose Q G hg hP hA hu h
  refine' enter (binds := [(PySem.Str.ofString "place", .int q t), (PySem.Str.ofString "level", .int l t2)]) G hg olds0 ?k6 ?k7 ?k8 ?k9 ?kB ?_ ?c2 ?c3 ?c4 ?c5
  case k6 => k_is
  case k7 => k_is
  case k8 => walk_at "m_room"
  case k9 => exact BindsTo.of_eq rfl
  case c5 => decide
  case kB => exact locs rfl
  case c2 => exact rfl
  case c3 => exact rfl
  case c4 => exact rfl
  intro g' L' h₁ F' N' G' gg'
  have X' := G'.X
  have T' := G'.T
  try dsimp only
  k_steps
  all_goals (try k_data)
  walk_at "m_end"
  intro k kn
  exact h _ _ _ k ⟨_, rfl⟩
theorem ct_ffpl (w : World) (fcN ps n l m : Int) (t t2 t3 : Tok) (hp0 : 0 ≤ fcN) (hp1 : fcN < 6) (hq0 : 0 ≤ ps) (hq1 : ps < 2305843009213693952) (hm : fcN * 2 ^ Int.toNat 61 + Builtin.bitOr ps 1 = n) (n0 : 0 ≤ n) (n1 : n < 18446744073709551615) (V : Vd n) (W : Lv n m) (h0 : 0 ≤ Builtin.bitOr (Builtin.bitAnd n (-(lz l))) (lz l)) (h1 : Builtin.bitOr (Builtin.bitAnd n (-(lz l))) (lz l) < 18446744073709551615) (h2 : 0 ≤ l) (h3 : l ≤ m) (h4 : m ≤ 30) : Ct w 8 99 [.ref 425, .int fcN t, .int ps t2, .int l t3] (fun _ _ => True) (fun h h' v => NewC h h' v (Builtin.bitOr (Builtin.bitAnd n (-(lz l))) (lz l))) := by
  intro A s g mg mb p loose Q G hg hP hA hu h
  refine' enter (binds := [(PySem.Str.ofString "cls", .ref 425), (PySem.Str.ofString "face", .int fcN t), (PySem.Str.ofString "pos", .int ps t2), (PySem.Str.ofString "level", .int l t3)]) G hg olds0 ?k6 ?k7 ?k8 ?k9 ?kB ?_ ?c2 ?c3 ?c4 ?c5
  case k6 => k_is
  case k7 => k_is
  case k8 => walk_at "m_room"
  case k9 => exact BindsTo.of_eq rfl
  case c5 => decide
  case kB => exact locs rfl
  case c2 => exact rfl
  case c3 => exact rfl
  case c4 => exact rfl
  intro g' L' h₁ F' N' G' gg'
  have X' := G'.X
  have T' := G'.T
  subst hm
  try dsimp only
  k_steps
  all_goals (try k_data)
  walk_at "m_end"
  intro k kn
  exact h _ _ _ k ⟨_, rfl, isCell_end (by k_asm) kn (by k_mem) (by k_mem) (by assumption) (by k_sub)⟩
end Mine
end
-- part AR1
namespace Mine
open PySem.W
/-- the id of the cell at a place of a level -/
def cid (p l : Int) : Int := (2 * p + 1) * 4 ^ (30 - l).toNat
theorem pow4 (k : Nat) : (4 : Int) ^ k = 2 ^ (2 * k) := by
  induction k with
  | zero => rfl
  | succ k ih => rw [show 2 * (k + 1) = 2 * k + 2 from by omega, Int.pow_succ, Int.pow_add, ih]; rfl
theorem p4p (k : Nat) : (0 : Int) < 4 ^ k := by rw [pow4]; exact kbt_pos _
theorem p4add (a b : Nat) : (4 : Int) ^ (a + b) = 4 ^ a * 4 ^ b := Int.pow_add ..
theorem lw_k (p : Int) (k : Nat) : lw ((2 * p + 1) * 4 ^ k) = 4 ^ k := by
  unfold lw
  rw [Int.mul_comm, pow4, kbt_low]
theorem lw_cid (p l : Int) : lw (cid p l) = 4 ^ (30 - l).toNat := lw_k _ _
theorem lz_is (l : Int) : lz l = 4 ^ (30 - l).toNat := by
  unfold lz
  rw [Int.one_mul, pow4]
  congr 1
  omega
theorem bne_true {a : Int} (h : a ≠ 0) : (a != 0) = true := by simpa using h
theorem bne_false {a : Int} (h : a = 0) : (a != 0) = false := by simpa using h
theorem lfb_true {n : Int} (h : n % 2 = 1) : lfb n = true := by
  unfold lfb
  rw [bitAnd_m1]; exact bne_true (by omega)
theorem lfb_false {n : Int} (h : n % 2 = 0) : lfb n = false := by
  unfold lfb
  rw [bitAnd_m1]; exact bne_false h
/-- an odd multiple of a power of four, of it a lower power is a factor too -/
theorem fac (p : Int) {c k : Nat} (h : c ≤ k) : (2 * p + 1) * (4 : Int) ^ k = 4 ^ c * ((2 * p + 1) * 4 ^ (k - c)) := by
  rw [show k = c + (k - c) from by omega, p4add, show c + (k - c) - c = k - c from by omega]
  rw [← Int.mul_assoc, Int.mul_comm (2 * p + 1), Int.mul_assoc]
theorem even_k (p : Int) {k : Nat} (h : 0 < k) : ((2 * p + 1) * (4 : Int) ^ k) % 2 = 0 := by
  rw [fac p (c := 1) h, show (4 : Int) ^ 1 = 4 from rfl]; omega
theorem and_neg (n : Int) (m : Nat) : Builtin.bitAnd n (-(2 ^ m)) = 2 ^ m * (n / 2 ^ m) := by
  have e : -((2 : Int) ^ m) = Builtin.bitNot (2 ^ m - 1) := by unfold Builtin.bitNot; omega
  rw [e, bitAnd_not, kbt_mask]
  have := Int.mul_ediv_add_emod n (2 ^ m)
  omega
/-- the parent's formula, at a power of four -/
theorem par_k (n : Int) (c : Nat) : Builtin.bitOr (Builtin.bitAnd n (-(4 ^ c))) (4 ^ c) = (2 * (n / (2 * 4 ^ c)) + 1) * 4 ^ c := by
  rw [pow4, and_neg, bitOr_and, kbt_bit]
  have hp := kbt_pos (2 * c)
  generalize (2 : Int) ^ (2 * c) = m at *
  rw [Int.mul_ediv_cancel_left _ (by omega)]
  have h : n / (2 * m) = n / m / 2 := by rw [Int.mul_comm, Int.ediv_ediv_of_nonneg (by omega)]
  rw [h]
  generalize n / m = q
  have h2 : q % 2 = q - 2 * (q / 2) := by omega
  rw [h2, Int.sub_mul, Int.add_mul, Int.one_mul, Int.mul_comm m q]
  omega
/-- the one of a lower level that holds the cell p at 4^k -/
theorem half_k (p : Int) {c k : Nat} (h : k ≤ c) : ((2 * p + 1) * 4 ^ k) / (2 * 4 ^ c) = p * 4 ^ k / 4 ^ c := by
  rw [show c = k + (c - k) from by omega, p4add]
  have hk := p4p k
  have hc := p4p (c - k)
  rw [show (2 : Int) * (4 ^ k * 4 ^ (c - k)) = 4 ^ k * (2 * 4 ^ (c - k)) from by rw [← Int.mul_assoc, Int.mul_comm 2, Int.mul_assoc]]
  rw [Int.mul_comm (2 * p + 1), Int.mul_comm p, Int.mul_ediv_mul_of_pos _ _ hk, Int.mul_ediv_mul_of_pos _ _ hk]
  rw [← Int.ediv_ediv_of_nonneg (by omega)]
  congr 1
  omega
theorem par_low (p : Int) {c k : Nat} (h : k ≤ c) : Builtin.bitOr (Builtin.bitAnd ((2 * p + 1) * 4 ^ k) (-(4 ^ c))) (4 ^ c) = (2 * (p * 4 ^ k / 4 ^ c) + 1) * 4 ^ c := by
  rw [par_k, half_k p h]
theorem modd (p : Int) {j : Nat} (h : j < 32) : ∃ a, ((2 : Int) ^ j * (2 * p + 1)) % 4294967296 = 2 ^ j * (2 * a + 1) := by
  have hj := kbt_pos j
  have e : (4294967296 : Int) = 2 ^ j * (2 * 2 ^ (31 - j)) := by
    have : (4294967296 : Int) = 2 ^ (j + (31 - j) + 1) := by rw [show j + (31 - j) + 1 = 32 from by omega]; rfl
    rw [this, Int.pow_succ, Int.pow_add, Int.mul_assoc, Int.mul_comm _ 2]
  refine ⟨p % 2 ^ (31 - j), ?_⟩
  rw [e, Int.mul_emod_mul_of_pos _ _ hj]
  congr 1
  have hm := kbt_pos (31 - j)
  generalize (2 : Int) ^ (31 - j) = m at *
  have h1 := Int.emod_nonneg p (show m ≠ 0 by omega)
  have h2 := Int.emod_lt_of_pos p hm
  have h3 := Int.mul_ediv_add_emod p m
  refine (kbt_unique (q := p / m) (by omega) ?_ (by omega) (by omega)).2
  rw [Int.mul_assoc]
  omega
theorem lvs_low : ∀ k : Nat, k < 16 → lvs (2 ^ (2 * k)) (-1 + 16) = 30 - (k : Int) := by decide
theorem lvs_high : ∀ k : Nat, k < 15 → lvs (2 ^ (2 * k)) (-1) = 14 - (k : Int) := by decide
theorem lv_k (p l : Int) (k : Nat) (hk : k ≤ 30) (hl : l = 30 - (k : Int)) : Lv ((2 * p + 1) * 4 ^ k) l := by
  have e : (2 * p + 1) * (4 : Int) ^ k = 2 ^ (2 * k) * (2 * p + 1) := by rw [pow4, Int.mul_comm]
  by_cases h0 : k = 0
  · subst h0
    exact .leaf (lfb_true (by rw [Int.pow_zero]; omega)) (by omega)
  have hf : lfb ((2 * p + 1) * 4 ^ k) = false := lfb_false (even_k p (by omega))
  by_cases h1 : k < 16
  · have hx : ∃ a, xlo ((2 * p + 1) * 4 ^ k) = 2 ^ (2 * k) * (2 * a + 1) := by
      unfold xlo
      rw [bitAnd_m32, e]
      exact modd p (by omega)
    obtain ⟨a, hx⟩ := hx
    have hp := kbt_pos (2 * k)
    refine .low hf ?_ ?_ (by omega) (by omega)
    · rw [hx]
      exact Int.mul_ne_zero (by omega) (by omega)
    · rw [hx, kbt_low, lvs_low k h1, hl]
  · have e2 : (2 : Int) ^ (2 * k) = 4294967296 * 2 ^ (2 * (k - 16)) := by
      rw [show 2 * k = 32 + 2 * (k - 16) from by omega, Int.pow_add]; rfl
    have hx : ∃ a, xhi ((2 * p + 1) * 4 ^ k) = 2 ^ (2 * (k - 16)) * (2 * a + 1) := by
      unfold xhi
      rw [bitAnd_m32, e, e2, Int.mul_assoc, Int.fdiv_eq_ediv_of_nonneg _ (by decide), show (2 : Int) ^ Int.toNat 32 = 4294967296 from by decide, Int.mul_ediv_cancel_left _ (by decide)]
      exact modd p (by omega)
    obtain ⟨a, hx⟩ := hx
    refine .high hf ?_ ?_ (by omega) (by omega)
    · unfold xlo
      rw [bitAnd_m32, e, e2, Int.mul_assoc, Int.mul_emod_right]
    · rw [hx, kbt_low, lvs_high (k - 16) (by omega), hl]
      omega
theorem lv_cid {p l : Int} (h0 : 0 ≤ l) (h1 : l ≤ 30) : Lv (cid p l) l := lv_k p l _ (by omega) (by omega)
theorem vmask : ∀ k : Nat, k < 31 → (Builtin.bitAnd (4 ^ k) 1537228672809129301 != 0) = true := by decide
theorem p430 (l : Int) (h0 : 0 ≤ l) (h1 : l ≤ 30) : (4 : Int) ^ l.toNat * 4 ^ (30 - l).toNat = 1152921504606846976 := by
  rw [← p4add, show l.toNat + (30 - l).toNat = 30 from by omega]; decide
theorem vd_cid {p l : Int} (h0 : 0 ≤ l) (h1 : l ≤ 30) (p0 : 0 ≤ p) (p1 : p < 6 * 4 ^ l.toNat) : Vd (cid p l) := by
  have e := p430 l h0 h1
  have q1 := p4p (30 - l).toNat
  have hw := lw_cid p l
  have b1 : (2 * p + 2) * 4 ^ (30 - l).toNat ≤ 12 * 4 ^ l.toNat * 4 ^ (30 - l).toNat := Int.mul_le_mul_of_nonneg_right (by omega) (by omega)
  rw [Int.mul_assoc, e] at b1
  have b2 : (2 * p + 2) * 4 ^ (30 - l).toNat = cid p l + 4 ^ (30 - l).toNat := by
    unfold cid
    rw [show 2 * p + 2 = (2 * p + 1) + 1 from by omega, Int.add_mul, Int.one_mul]
  have b3 : 0 ≤ 2 * p * 4 ^ (30 - l).toNat := Int.mul_nonneg (by omega) (by omega)
  have b4 : cid p l = 2 * p * 4 ^ (30 - l).toNat + 4 ^ (30 - l).toNat := by
    unfold cid
    rw [Int.add_mul, Int.one_mul]
  refine ⟨by omega, by omega, ?_, ?_, by omega, by omega, by omega⟩
  · unfold fc
    rw [Int.fdiv_eq_ediv_of_nonneg _ (by decide), show (2 : Int) ^ Int.toNat 61 = 2305843009213693952 from by decide]
    omega
  · rw [hw]
    exact vmask _ (by omega)
end Mine
-- part L0
namespace Mine
open PySem.W
def bodyOf : Stmt → List Stmt
  | .FunctionDef _ _ b _ _ _ _ _ _ _ => b
  | _ => []
def scopeOf : Stmt → Scope
  | .FunctionDef _ _ _ _ _ _ s _ _ _ => s
  | _ => default
def lawSt : Stmt := PySem.Challenge.pw_eq0043_01.main.body.getD 5 default
def lawB : List Stmt := bodyOf lawSt
def lawSc : Scope := scopeOf lawSt
def st (i : Nat) : Stmt := lawB.getD i default
def lawEnv (L a : Addr) (cd : Value) : Env := envOfC (PySem.Str.ofString "law") lawSc L a cd
def lawA (L a : Addr) (cd : Value) : Around := callerA.deeper (lawEnv L a cd)
theorem lawA_d (L a : Addr) (cd : Value) : (lawA L a cd).depth + 20 < recursionLimit := by
  show 301 + 1 + 20 < 1000
  decide
theorem lawA_u (L a : Addr) (cd : Value) : (lawA L a cd).units + 100 < cLine := by
  show 4 + 3 + 100 < 9900
  decide
theorem lawA_h (L a : Addr) (cd : Value) : (lawA L a cd).handled = none := rfl
theorem lawB_eq : lawB = [st 0, st 1, st 2, st 3, st 4, st 5, st 6, st 7, st 8, st 9, st 10, st 11, st 12, st 13, st 14, st 15, st 16, st 17, st 18, st 19, st 20, st 21, st 22, st 23] := by rfl
theorem off_a {y dy c : Addr} {o : Obj} {news : List (Addr × Obj)} (O : Off2 news y dy) (hm : (c, o) ∈ news) : @Ne Nat y c := fun e => (O _ hm).1 e.symm
theorem off_b {y dy c : Addr} {o : Obj} {news : List (Addr × Obj)} (O : Off2 news y dy) (hm : (c, o) ∈ news) : @Ne Nat dy c := fun e => (O _ hm).2 e.symm
end Mine
-- part L1
section
local macro_rules | `(tactic| walk_at "m_room") => `(tactic| ((try simp only [depth_in1, depth_deeper, Around.deeper, Around.mark, depth_under_make]); omega))
local macro_rules | `(tactic| walk_at "m_units") => `(tactic| ((try simp only [units_in1, units_deeper, Around.mark_units]); omega))
local macro_rules | `(tactic| k_units) => `(tactic| walk_at "m_units")
local macro_rules | `(tactic| k_room) => `(tactic| walk_at "m_room")
local macro_rules | `(tactic| walk_at "m_cell") => `(tactic| exact Mine.isCell_of (by k_asm) (by k_mem) (by k_mem))
local macro_rules | `(tactic| walk_at "m_end") => `(tactic| ((try dsimp only); refine' Mine.endK_ ?F ?N ?S ?_; (case F => k_asm); (case N => k_asm); (case S => k_sub)))
local macro_rules | `(tactic| walk_at "getMethod ref") => `(tactic| (k_here; (with_reducible show wpAny _ _ (getMethod (Value.ref _) (PySem.Str.ofString "__class__") _) _ _ _); k_dflt (refine' Mine.meth_class ?F ?X ?I ?_; (case F => k_asm); (case X => k_asm); (case I => k_inst); k_whole)))
local macro_rules | `(tactic| walk_at "eval Name") => `(tactic| (k_here; (with_reducible show wpAny _ _ (eval _ (envOf _ _ _ _ _)) _ _ _); k_dflt (refine' ld ?k1 ?k2 ?_; (case k1 => k_asm); (case k2 => exact rfl); k_whole)))
local macro_rules | `(tactic| walk_at "getMethod ref") => `(tactic| (k_here; k_dflt (refine' method_inst ?k1 ?k2 ?k3 ?k4 ?k5 ?k6 ?k7 ?_; (case k1 => k_asm); (case k2 => k_asm); (case k3 => k_inst); (case k4 => k_is); (case k5 => k_is); (case k6 => k_is); (case k7 => k_get); k_whole)))
local macro_rules | `(tactic| walk_at "callWith ref") => `(tactic| (k_here; (with_reducible show wpAny _ _ (PySem.callWith _ (Value.ref _) _ (backTo _ (starEach [] _)) []) _ _ _); k_dflt (refine' callWith_K0 ?k1 ?k2 ?_; (case k1 => k_in); (case k2 => k_is); k_whole)))
local macro_rules | `(tactic| walk_at "getAttr ref") => `(tactic| (k_here; k_dflt (refine' get_own ?k1 ?k2 ?k3 ?k4 ?k5 ?k6 ?k7 ?k8 ?k9 ?_; (case k1 => k_asm); (case k2 => k_asm); (case k3 => k_inst); (case k4 => k_is); (case k5 => k_is); (case k6 => k_is); (case k7 => k_is); (case k8 => k_get); (case k9 => k_handed); k_whole)))
local macro_rules | `(tactic| walk_at "binaryOp Pow int int") => `(tactic| (k_here; (with_reducible refine pow_int_small ?a ?b ?c ?_); (case a => omega); (case b => omega); (case c => first | decide | omega)))
local macro_rules | `(tactic| walk_at "binaryOp LShift int int") => `(tactic| (k_here; (with_reducible refine lshift_int_small ?a ?b ?c ?_); (case a => omega); (case b => omega); (case c => first | decide | omega)))
namespace Mine
open PySem.W
theorem exec_is {M : Model} {A : Around} {st st' : Stmt} {env : Env} {Q : Flow → Shared → Prop} {E : Value → Shared → Prop} {s : Shared} (e : st = st') (h : wpAny M A (exec st' env) Q E s) : wpAny M A (exec st env) Q E s := by subst e; exact h
def JI (P : Int → Prop) (h₀ : Heap) (L : Addr) (m : Str → Option Value) (news : List (Addr × Obj)) (s : Shared) (v : Value) (s' : Shared) : Prop := ∃ i t h' tk', v = .int i t ∧ P i ∧ Fr h₀ L h' m ∧ News h₀ L h' news ∧ s' = { s with heap := h', toks := tk' }
theorem ji {P : Int → Prop} {h₀ : Heap} {L : Addr} {m : Str → Option Value} {news : List (Addr × Obj)} {s : Shared} {i : Int} {t : Tok} {h' : Heap} {tk' : Nat} (F : Fr h₀ L h' m) (N : News h₀ L h' news) (p : P i) : JI P h₀ L m news s (.int i t) { s with heap := h', toks := tk' } := ⟨i, t, h', tk', rfl, p, F, N, rfl⟩
theorem ifexp_join {M : Model} {A : Around} {test body orelse : Expr} {pos : Pos} {env : Env} {E : Value → Shared → Prop} {s : Shared} {Q : Value → Shared → Prop} {h₀ : Heap} {L : Addr} {m : Str → Option Value} {news : List (Addr × Obj)} (F : Fr h₀ L s.heap m) (N : News h₀ L s.heap news) (P : Int → Prop)
    (h1 : wpAny M A (eval (.IfExp test body orelse pos) env) (JI P h₀ L m news s) (fun _ _ => False) s)
    (h2 : ∀ i t h' tk', P i → Fr h₀ L h' m → News h₀ L h' news → Q (.int i t) { s with heap := h', toks := tk' }) : wpAny M A (eval (.IfExp test body orelse pos) env) Q E s :=
  wpAny_mono h1 (fun v s' ⟨i, t, h', tk', e, p, F, N, e'⟩ => by subst e; subst e'; exact h2 i t h' tk' p F N) fun _ _ h => h.elim
theorem fr_as {h₀ h : Heap} {L : Addr} {m m' : Str → Option Value} (F : Fr h₀ L h m) (e : ∀ y, m y = m' y) : Fr h₀ L h m' := by rw [← funext e]; exact F
theorem fmod_b (a b : Int) (h : 0 < b) : 0 ≤ a.fmod b ∧ a.fmod b < b := by
  rw [Int.fmod_eq_emod_of_nonneg _ (Int.le_of_lt h)]
  exact ⟨Int.emod_nonneg _ (by omega), Int.emod_lt_of_pos _ h⟩
theorem p4_pos (n : Nat) : (1 : Int) ≤ 4 ^ n := by
  induction n with
  | zero => simp
  | succ n ih => rw [Int.pow_succ]; omega
theorem p4_le {n k : Nat} (h : n ≤ k) : (4 : Int) ^ n ≤ 4 ^ k := by
  induction k with
  | zero => rw [Nat.le_zero.mp h]; exact Int.le_refl _
  | succ k ih =>
    rcases Nat.lt_or_ge k n with q | q
    · rw [Nat.le_antisymm h q]; exact Int.le_refl _
    · have := ih q
      have := p4_pos k
      rw [Int.pow_succ]; omega
theorem p4_30 {n : Nat} (h : n ≤ 30) : (4 : Int) ^ n ≤ 1152921504606846976 := p4_le h

theorem np_small {b : Int} (h0 : 0 ≤ b) (h1 : b < 18446744073709551616) : b.natAbs.log2 < 9000 := by
  by_cases z : b.natAbs = 0
  · rw [z]; decide
  · have : b.natAbs.log2 < 64 := (Nat.log2_lt z).mpr (by omega)
    omega
local macro_rules | `(tactic| walk_at "binaryOp FloorDiv int int") => `(tactic| (k_here; (with_reducible refine floordiv_int ?kbe ?_ (Or.inl (PyProof.noPylong_of_log2 (Mine.np_small ?k0 ?k1)))); (case kbe => omega); (case k0 => omega); (case k1 => omega)))
abbrev mS (sa : Addr) : Str → Option Value := fun y => if y = PySem.Str.ofString "script" then some (.ref sa) else none
abbrev mD (sa : Addr) (dr th dp : Int) (t1 t2 t3 : Tok) : Str → Option Value := fun y => if y = PySem.Str.ofString "drawn" then some (.int dr t1) else if y = PySem.Str.ofString "there" then some (.int th t2) else if y = PySem.Str.ofString "deep" then some (.int dp t3) else mS sa y

section
variable {w : World} {s : Shared} {h₀ : Heap} {L a sa : Addr} {cd : Value} {mg mb : Str → Option Value} {p : Program} {loose : List Str} {Q : Flow → Shared → Prop} {E : Value → Shared → Prop}
  {vs : List Value} {ns : List Int} {o1 o2 o3 o4 o5 o6 o7 o8 : Obj}
theorem head0 (F : Fr h₀ L s.heap (mS sa)) (X : (hd.heap_39 w.params).In h₀) (T : TopRead p loose mg mb h₀)
    (hS : h₀.IsList sa vs.toArray) (hI : IntsAre vs ns) (hn : ns.length ≤ 63)
    (N : News h₀ L s.heap [(L + 8, o8), (L + 7, o7), (L + 6, o6), (L + 5, o5), (L + 4, o4), (L + 3, o3), (L + 2, o2), (L + 1, o1)]) (d1 : o1.data = .cell none) (d2 : o2.data = .cell none)
    (h : ∀ lv pl dp th dr t0 t1 t2 t3 t4 h' tk' o1' o2', 0 ≤ lv → lv ≤ 30 → 0 ≤ pl → pl < 6 * 4 ^ lv.toNat → 0 ≤ dp → dp ≤ 30 → 0 ≤ th → th < 6 * 4 ^ dp.toNat → 0 ≤ dr → dr ≤ 30 →
      Fr h₀ L h' (mD sa dr th dp t2 t3 t4) → News h₀ L h' [(L + 8, o8), (L + 7, o7), (L + 6, o6), (L + 5, o5), (L + 4, o4), (L + 3, o3), (L + 2, o2'), (L + 1, o1')] → o1'.data = .cell (some (.int lv t0)) → o2'.data = .cell (some (.int pl t1)) →
      wpAny (model PR w) (lawA L a cd) (execs [st 6, st 7, st 8, st 9, st 10, st 11, st 12, st 13, st 14, st 15, st 16, st 17, st 18, st 19, st 20, st 21, st 22, st 23] (lawEnv L a cd)) Q E { s with heap := h', toks := tk' }) :
    wpAny (model PR w) (lawA L a cd) (execs lawB (lawEnv L a cd)) Q E s := by
  rw [lawB_eq]
  generalize hR : [st 6, st 7, st 8, st 9, st 10, st 11, st 12, st 13, st 14, st 15, st 16, st 17, st 18, st 19, st 20, st 21, st 22, st 23] = R at h ⊢
  unfold lawEnv at h ⊢
  refine wpAny_execs_cons (exec_is (st' := ?S0) ?e0 ?_)
  case e0 => conv => lhs; whnf
  walk1
  try dsimp only
  refine ifexp_join (by k_asm) (by k_asm) (fun i => 0 ≤ i ∧ i ≤ 30) ?_ ?_
  · k_steps
    all_goals (try k_data)
    · have := fmod_b (ns.getD (Int.toNat 0) 0) 31 (by decide)
      exact ji (by k_asm) (by k_asm) (by omega)
    · exact ji (by k_asm) (by k_asm) (by omega)
  intro lv t0 h1 tk1 ⟨lv0, lv1⟩ F1 N1
  walk1
  have q1 := p4_pos lv.toNat
  have q2 : (4 : Int) ^ lv.toNat ≤ 1152921504606846976 := p4_30 (by omega)
  dsimp only
  refine wpAny_execs_cons (exec_is (st' := ?S1) ?e1 ?_)
  case e1 => conv => lhs; whnf
  walk1
  try dsimp only
  refine ifexp_join (by k_asm) (by k_asm) (fun i => 0 ≤ i ∧ i < 6 * 4 ^ lv.toNat) ?_ ?_
  · k_steps
    all_goals (try k_data)
    · have := fmod_b (ns.getD (Int.toNat 1) 0) (6 * 4 ^ lv.toNat) (by omega)
      exact ji (by k_asm) (by k_asm) (by omega)
    · exact ji (by k_asm) (by k_asm) (by omega)
  intro pl t1 h2 tk2 ⟨pl0, pl1⟩ F2 N2
  walk1
  dsimp only
  refine wpAny_execs_cons (exec_is (st' := ?S2) ?e2 ?_)
  case e2 => conv => lhs; whnf
  walk1
  try dsimp only
  refine ifexp_join (by k_asm) (by k_asm) (fun i => 0 ≤ i ∧ i ≤ 30) ?_ ?_
  · k_steps
    all_goals (try k_data)
    · have := fmod_b (ns.getD (Int.toNat 2) 0) 31 (by decide)
      exact ji (by k_asm) (by k_asm) (by omega)
    · exact ji (by k_asm) (by k_asm) (by omega)
  intro dp t2 h3 tk3 ⟨dp0, dp1⟩ F3 N3
  walk1
  have q3 := p4_pos dp.toNat
  have q4 : (4 : Int) ^ dp.toNat ≤ 1152921504606846976 := p4_30 (by omega)
  have q5 : (4 : Int) ^ (dp - lv).toNat ≤ 1152921504606846976 := p4_30 (by omega)
  have q6 := p4_pos (dp - lv).toNat
  have q7 := p4_pos (lv - dp).toNat
  have q8 : (4 : Int) ^ (lv - dp).toNat ≤ 1152921504606846976 := p4_30 (by omega)
  dsimp only
  refine wpAny_execs_cons (exec_is (st' := ?S3) ?e3 ?_)
  case e3 => conv => lhs; whnf
  walk1
  try dsimp only
  refine ifexp_join (by k_asm) (by k_asm) (fun i => True) ?_ ?_
  · k_steps
    all_goals (try k_data)
    · exact ji (by k_asm) (by k_asm) (by trivial)
    · exact ji (by k_asm) (by k_asm) (by trivial)
  intro th0 t3 h4 tk4 _ F4 N4
  walk1
  dsimp only
  refine wpAny_execs_cons (exec_is (st' := ?S4) ?e4 ?_)
  case e4 => conv => lhs; whnf
  walk1
  walk1
  walk1
  walk1
  try dsimp only
  refine ifexp_join (by k_asm) (by k_asm) (fun i => True) ?_ ?_
  · k_steps
    all_goals (try k_data)
    · exact ji (by k_asm) (by k_asm) (by trivial)
    · exact ji (by k_asm) (by k_asm) (by trivial)
  intro aa t3' h4' tk4' _ F4' N4'
  have f1 := fmod_b (th0 + aa) (6 * 4 ^ dp.toNat) (by omega)
  iterate 10 (first | walk1 | (dsimp only; walk1))
  generalize hth : (th0 + aa).fmod (6 * 4 ^ dp.toNat) = th at *
  try dsimp only
  refine wpAny_execs_cons (exec_is (st' := ?S5) ?e5 ?_)
  case e5 => conv => lhs; whnf
  walk1
  try dsimp only
  refine ifexp_join (by k_asm) (by k_asm) (fun i => 0 ≤ i ∧ i ≤ 30) ?_ ?_
  · k_steps
    all_goals (try k_data)
    · have := fmod_b (ns.getD (Int.toNat 4) 0) 31 (by decide)
      exact ji (by k_asm) (by k_asm) (by omega)
    · exact ji (by k_asm) (by k_asm) (by omega)
  intro dr t5 h5 tk5 ⟨dr0, dr1⟩ F5 N5
  walk1
  try dsimp only
  refine' h lv pl dp th dr _ _ _ ?t3 ?t4 _ _ _ _ lv0 lv1 pl0 pl1 dp0 dp1 f1.1 f1.2 dr0 dr1 (fr_as (by k_asm) ?k) (by k_asm) (by assumption) (by assumption)
  case k =>
    intro y
    by_cases h2 : y = PySem.Str.ofString "there"
    · subst h2
      exact rfl
    · simp only [mD, if_neg h2]
      exact rfl
end
end Mine
end
-- part AR2
namespace Mine
open PySem.W
theorem mlt {x y m : Int} (h : 0 < m) : x * m < y * m ↔ x < y := Int.mul_lt_mul_right h
theorem mle {x y m : Int} (h : 0 < m) : x * m ≤ y * m ↔ x ≤ y := Int.mul_le_mul_right h
/-- of two dyadic pieces: the middle of one lies between the leaves of the other just if it lies in it whole -/
theorem nest (p q : Int) (a b : Nat) : ((2 * p + 1) * 4 ^ a - (4 ^ a - 1) ≤ (2 * q + 1) * 4 ^ b ∧ (2 * q + 1) * 4 ^ b ≤ (2 * p + 1) * 4 ^ a + (4 ^ a - 1)) ↔ (p * 4 ^ a ≤ q * 4 ^ b ∧ (q + 1) * 4 ^ b ≤ (p + 1) * (4 : Int) ^ a) := by
  have ha := p4p a
  have hb := p4p b
  by_cases h : b ≤ a
  · have hd := p4p (a - b)
    have e : (4 : Int) ^ a = 4 ^ (a - b) * 4 ^ b := by rw [← p4add, show a - b + b = a from by omega]
    generalize (4 : Int) ^ (a - b) = d at *
    generalize (4 : Int) ^ a = A at *
    generalize (4 : Int) ^ b = m at *
    subst e
    have e1 : (2 * p + 1) * (d * m) = (2 * (p * d)) * m + d * m := by rw [Int.add_mul, Int.one_mul, ← Int.mul_assoc, Int.mul_assoc 2]
    have e2 : p * (d * m) = (p * d) * m := (Int.mul_assoc ..).symm
    have e3 : (p + 1) * (d * m) = (p * d + d) * m := by rw [Int.add_mul, Int.one_mul, e2, Int.add_mul]
    have e4 : (2 * (p * d) + 2 * d) * m = (2 * (p * d)) * m + d * m + d * m := by rw [Int.add_mul, Int.mul_assoc 2 d m]; omega
    rw [e1, e2, e3, mle hb, mle hb]
    have i1 := @mlt (2 * (p * d)) (2 * q + 1) m hb
    have i2 := @mlt (2 * q + 1) (2 * (p * d) + 2 * d) m hb
    rw [e4] at i2
    omega
  · have hd := p4p (b - a - 1)
    have e : (4 : Int) ^ b = 4 * 4 ^ (b - a - 1) * 4 ^ a := by
      rw [show (4 : Int) * 4 ^ (b - a - 1) = 4 ^ (b - a - 1 + 1) from by rw [Int.pow_succ, Int.mul_comm], ← p4add, show b - a - 1 + 1 + a = b from by omega]
    generalize (4 : Int) ^ (b - a - 1) = d at *
    generalize (4 : Int) ^ b = B at *
    generalize (4 : Int) ^ a = m at *
    subst e
    have e1 : (2 * q + 1) * (4 * d * m) = (2 * (q * (4 * d)) + 4 * d) * m := by rw [← Int.mul_assoc, Int.add_mul, Int.one_mul, Int.mul_assoc 2]
    have e2 : q * (4 * d * m) = (q * (4 * d)) * m := (Int.mul_assoc ..).symm
    have e3 : (q + 1) * (4 * d * m) = (q * (4 * d) + 4 * d) * m := by rw [← Int.mul_assoc, Int.add_mul, Int.one_mul]
    have e4 : (2 * p + 1) * m = 2 * p * m + m := by rw [Int.add_mul, Int.one_mul]
    have e5 : (2 * p + 2) * m = 2 * p * m + m + m := by rw [Int.add_mul]; omega
    rw [e1, e2, e3, mle ha, mle ha, e4]
    have i1 := @mlt (2 * p) (2 * (q * (4 * d)) + 4 * d) m ha
    have i2 := @mlt (2 * (q * (4 * d)) + 4 * d) (2 * p + 2) m ha
    rw [e5] at i2
    omega
theorem nestD (p q : Int) (a b : Nat) : decide ((2 * p + 1) * 4 ^ a - (lw ((2 * p + 1) * 4 ^ a) - 1) ≤ (2 * q + 1) * 4 ^ b ∧ (2 * q + 1) * 4 ^ b ≤ (2 * p + 1) * 4 ^ a + (lw ((2 * p + 1) * 4 ^ a) - 1)) = decide (p * 4 ^ a ≤ q * 4 ^ b ∧ (q + 1) * 4 ^ b ≤ (p + 1) * (4 : Int) ^ a) := by
  rw [lw_k]
  exact decide_eq_decide.mpr (nest p q a b)
theorem lowE (p : Int) (a : Nat) : (2 * p + 1) * (4 : Int) ^ a - (lw ((2 * p + 1) * 4 ^ a) - 1) = 2 * (p * 4 ^ a) + 1 := by
  rw [lw_k, Int.add_mul, Int.one_mul, Int.mul_assoc]; omega
theorem highE (p : Int) (a : Nat) : (2 * p + 1) * (4 : Int) ^ a + (lw ((2 * p + 1) * 4 ^ a) - 1) = 2 * ((p + 1) * 4 ^ a) - 1 := by
  rw [lw_k, Int.add_mul, Int.add_mul, Int.one_mul, Int.mul_assoc]; omega
theorem meetD (p q : Int) (a b : Nat) : decide ((2 * q + 1) * 4 ^ b - (lw ((2 * q + 1) * 4 ^ b) - 1) ≤ (2 * p + 1) * 4 ^ a + (lw ((2 * p + 1) * 4 ^ a) - 1) ∧ (2 * p + 1) * 4 ^ a - (lw ((2 * p + 1) * 4 ^ a) - 1) ≤ (2 * q + 1) * 4 ^ b + (lw ((2 * q + 1) * 4 ^ b) - 1)) = decide (p * 4 ^ a < (q + 1) * 4 ^ b ∧ q * 4 ^ b < (p + 1) * (4 : Int) ^ a) := by
  rw [lowE, lowE, highE, highE]
  exact decide_eq_decide.mpr (by omega)
theorem meetD' (p q : Int) (a b : Nat) : decide ((2 * q + 1) * 4 ^ b - (lw ((2 * q + 1) * 4 ^ b) - 1) ≤ (2 * p + 1) * 4 ^ a + (lw ((2 * p + 1) * 4 ^ a) - 1) ∧ (2 * p + 1) * 4 ^ a - (lw ((2 * p + 1) * 4 ^ a) - 1) ≤ (2 * q + 1) * 4 ^ b + (lw ((2 * q + 1) * 4 ^ b) - 1)) = decide (q * 4 ^ b < (p + 1) * 4 ^ a ∧ p * 4 ^ a < (q + 1) * (4 : Int) ^ b) := by
  rw [lowE, lowE, highE, highE]
  exact decide_eq_decide.mpr (by omega)
theorem fdp (x : Int) (k : Nat) : x.fdiv (4 ^ k) = x / 4 ^ k := Int.fdiv_eq_ediv_of_nonneg _ (Int.le_of_lt (p4p k))
theorem fmp (x : Int) (k : Nat) : x.fmod (4 ^ k) = x % 4 ^ k := Int.fmod_eq_emod_of_nonneg _ (Int.le_of_lt (p4p k))
theorem qle {x : Int} (h : 0 ≤ x) (k : Nat) : 0 ≤ x / 4 ^ k ∧ x / 4 ^ k * 4 ^ k ≤ x ∧ x / 4 ^ k ≤ x := by
  have hk := p4p k
  refine ⟨Int.ediv_nonneg h (by omega), Int.ediv_mul_le _ (by omega), ?_⟩
  have h1 := Int.ediv_mul_le x (show (4 : Int) ^ k ≠ 0 by omega)
  have h2 : x / 4 ^ k * 1 ≤ x / 4 ^ k * 4 ^ k := Int.mul_le_mul_of_nonneg_left (by omega) (Int.ediv_nonneg h (by omega))
  omega
theorem p4le30 {k : Nat} (h : k ≤ 30) : (4 : Int) ^ k ≤ 1152921504606846976 := p4_30 h
/-- the id of the one of a level that holds a leaf: its bounds -/
theorem idB {x : Int} (h0 : 0 ≤ x) (h1 : x ≤ 6917529027641081856) {k : Nat} (hk : k ≤ 30) : 0 ≤ (2 * (x / 4 ^ k) + 1) * 4 ^ k ∧ (2 * (x / 4 ^ k) + 1) * 4 ^ k < 18446744073709551615 ∧ 0 ≤ x / 4 ^ k ∧ x / 4 ^ k ≤ 6917529027641081856 := by
  obtain ⟨q0, q1, q2⟩ := qle h0 k
  have hb := p4le30 hk
  have hp := p4p k
  have e : (2 * (x / 4 ^ k) + 1) * 4 ^ k = 2 * (x / 4 ^ k * 4 ^ k) + 4 ^ k := by rw [Int.add_mul, Int.one_mul, Int.mul_assoc]
  have z : 0 ≤ x / 4 ^ k * 4 ^ k := Int.mul_nonneg q0 (by omega)
  omega
theorem loB {p l : Int} (h0 : 0 ≤ l) (h1 : l ≤ 30) (p0 : 0 ≤ p) (p1 : p < 6 * 4 ^ l.toNat) : 0 ≤ p * 4 ^ (30 - l).toNat ∧ p * 4 ^ (30 - l).toNat < 6917529027641081856 ∧ (p + 1) * 4 ^ (30 - l).toNat ≤ 6917529027641081856 ∧ 0 ≤ (p + 1) * 4 ^ (30 - l).toNat := by
  have e := p430 l h0 h1
  have q1 := p4p (30 - l).toNat
  have b1 : (p + 1) * 4 ^ (30 - l).toNat ≤ 6 * 4 ^ l.toNat * 4 ^ (30 - l).toNat := Int.mul_le_mul_of_nonneg_right (by omega) (by omega)
  rw [Int.mul_assoc, e] at b1
  have b3 : 0 ≤ p * 4 ^ (30 - l).toNat := Int.mul_nonneg (by omega) (by omega)
  have b4 : (p + 1) * 4 ^ (30 - l).toNat = p * 4 ^ (30 - l).toNat + 4 ^ (30 - l).toNat := by rw [Int.add_mul, Int.one_mul]
  omega
/-- a multiple of 4^a, a ≥ c -/
theorem mulE (p : Int) {a c : Nat} (h : c ≤ a) : p * (4 : Int) ^ a / 4 ^ c * 4 ^ c = p * 4 ^ a := by
  have hc := p4p c
  have e : (4 : Int) ^ a = 4 ^ (a - c) * 4 ^ c := by rw [← p4add, show a - c + c = a from by omega]
  rw [e, ← Int.mul_assoc, Int.mul_ediv_cancel _ (by omega)]
theorem fcE (p : Int) {k : Nat} (hk : k ≤ 30) : fc ((2 * p + 1) * 4 ^ k) = p.fdiv (4 ^ (30 - k)) := by
  unfold fc
  rw [fdp, Int.fdiv_eq_ediv_of_nonneg _ (by decide), show (2 : Int) ^ Int.toNat 61 = 2 * 4 ^ 30 from by decide, half_k p hk]
  have e : (4 : Int) ^ 30 = 4 ^ (30 - k) * 4 ^ k := by rw [← p4add, show 30 - k + k = 30 from by omega]
  have := p4p k
  rw [e, Int.mul_ediv_mul_of_pos_left _ _ this]
theorem psnE (p : Int) {k : Nat} (hk : k ≤ 30) : psn ((2 * p + 1) * 4 ^ k) = (2 * p.fmod (4 ^ (30 - k)) + 1) * 4 ^ k := by
  unfold psn
  have e1 : Int.fdiv 18446744073709551615 (2 ^ Int.toNat 3) = 2 ^ 61 - 1 := by decide
  have e : (2 : Int) ^ 61 = 4 ^ k * (2 * 4 ^ (30 - k)) := by
    have : (4 : Int) ^ 30 = 4 ^ k * 4 ^ (30 - k) := by rw [← p4add, show k + (30 - k) = 30 from by omega]
    rw [show (2 : Int) ^ 61 = 2 * 4 ^ 30 from by decide, this, ← Int.mul_assoc, Int.mul_comm 2, Int.mul_assoc]
  rw [e1, kbt_mask, fmp, e, Int.mul_comm (2 * p + 1), Int.mul_emod_mul_of_pos _ _ (p4p k), Int.mul_comm (4 ^ k)]
  congr 1
  have hm := p4p (30 - k)
  generalize (4 : Int) ^ (30 - k) = m at *
  have h1 := Int.emod_nonneg p (show m ≠ 0 by omega)
  have h2 := Int.emod_lt_of_pos p hm
  have h3 := Int.mul_ediv_add_emod p m
  refine (kbt_unique (q := p / m) (by omega) ?_ (by omega) (by omega)).2
  rw [Int.mul_assoc]
  omega
theorem beq_false {a : Int} (h : a ≠ 0) : (a == 0) = false := by simpa using h
theorem fcb_mod (n : Int) : fcb n = (n % 4 ^ 30 == 0) := by
  have e : lz 0 - 1 = 2 ^ 60 - 1 := by rw [lz_is]; decide
  unfold fcb
  rw [e, kbt_mask, show (2 : Int) ^ 60 = 4 ^ 30 from by decide]
theorem fcb_true (p : Int) : fcb ((2 * p + 1) * 4 ^ 30) = true := by
  rw [fcb_mod, Int.mul_emod_left]
  rfl
theorem fcb_false (p : Int) {k : Nat} (hk : k < 30) : fcb ((2 * p + 1) * 4 ^ k) = false := by
  rw [fcb_mod]
  refine beq_false fun h => ?_
  have hd := Int.dvd_of_emod_eq_zero h
  have e : (4 : Int) ^ 30 = 4 ^ (29 - k) * 4 * 4 ^ k := by rw [show (4 : Int) ^ (29 - k) * 4 = 4 ^ (29 - k + 1) from by rw [Int.pow_succ], ← p4add, show 29 - k + 1 + k = 30 from by omega]
  rw [e] at hd
  have hk := p4p k
  have h2 := Int.dvd_of_mul_dvd_mul_right (by omega : (4 : Int) ^ k ≠ 0) hd
  obtain ⟨t, ht⟩ := h2
  rw [Int.mul_comm (4 ^ (29 - k)), Int.mul_assoc] at ht
  omega
theorem lfbE {p l : Int} (_h0 : 0 ≤ l) (h1 : l ≤ 30) : lfb ((2 * p + 1) * 4 ^ (30 - l).toNat) = decide (l = 30) := by
  by_cases h : l = 30
  · subst h
    rw [decide_eq_true rfl]
    exact lfb_true (by rw [show ((30 : Int) - 30).toNat = 0 from rfl, Int.pow_zero]; omega)
  · rw [decide_eq_false h]
    exact lfb_false (even_k p (by omega))
theorem fcbE {p l : Int} (h0 : 0 ≤ l) (h1 : l ≤ 30) : fcb ((2 * p + 1) * 4 ^ (30 - l).toNat) = decide (l = 0) := by
  by_cases h : l = 0
  · subst h
    rw [decide_eq_true rfl]
    exact fcb_true p
  · rw [decide_eq_false h]
    exact fcb_false p (by omega)
theorem or1 (x r : Int) (h0 : 0 ≤ r) (h1 : r < 2) : Builtin.bitOr (2 * x + r) 1 = 2 * x + 1 := by
  rw [bitOr_and, bitAnd_m1]
  omega
end Mine
-- part L3
namespace Mine
open PySem.W
/-- what the law's run holds once cell and other are made -/
structure LP where
  L : Addr
  a : Addr
  sa : Addr
  y1 : Addr
  dy1 : Addr
  y2 : Addr
  dy2 : Addr
  al : Addr
  bl : Addr
  cd : Value
  lv : Int
  pl : Int
  dp : Int
  th : Int
  dr : Int
  hv : Int
  mn : Int
  hw : Int
  mx : Int
  le : Int
  pa : Int
  lo : Int
  hi : Int
  st : Int
  sp : Int
  n : Int
  k : Int
  h1 : Int
  h2 : Int
  ta : Tok
  tb : Tok
  tc : Tok
  td : Tok
  u0 : Tok
  u1 : Tok
  u2 : Tok
  u3 : Tok
  u4 : Tok
  u5 : Tok
  u6 : Tok
  u7 : Tok
  u8 : Tok
  u9 : Tok
  a0 : Tok
  a1 : Tok
  a2 : Tok
  a3 : Tok
  b0 : Tok
  b1 : Tok
  b2 : Tok
  b3 : Tok
  o1 : Obj
  o2 : Obj
  o3 : Obj
  o4 : Obj
  o5 : Obj
abbrev mF (P : LP) (fv : Option Value) : Str → Option Value := fun y =>
  if y = PySem.Str.ofString "four" then fv
  else if y = PySem.Str.ofString "other" then some (.ref P.y2)
  else if y = PySem.Str.ofString "stop" then some (.int P.sp P.u0)
  else if y = PySem.Str.ofString "high" then some (.int P.hi P.u1)
  else if y = PySem.Str.ofString "leaves" then some (.int P.le P.u2)
  else if y = PySem.Str.ofString "parts" then some (.int P.pa P.u3)
  else if y = PySem.Str.ofString "below" then some (.ref P.bl)
  else if y = PySem.Str.ofString "above" then some (.ref P.al)
  else if y = PySem.Str.ofString "drawn" then some (.int P.dr P.u4)
  else if y = PySem.Str.ofString "there" then some (.int P.th P.u5)
  else if y = PySem.Str.ofString "deep" then some (.int P.dp P.u6)
  else if y = PySem.Str.ofString "script" then some (.ref P.sa) else none
abbrev ledC (P : LP) (o6 o7 o8 : Obj) : List (Addr × Obj) := [(P.L + 8, o8), (P.L + 7, o7), (P.L + 6, o6), (P.L + 5, P.o5), (P.L + 4, P.o4), (P.L + 3, P.o3), (P.L + 2, P.o2), (P.L + 1, P.o1)]
abbrev ledA (P : LP) : List (Addr × Obj) := ledC P (instObj 425 0) (instObj 425 0) (instObj 425 0)
abbrev ledF (P : LP) (o6 o7 o8 : Obj) : List (Addr × Obj) :=
  (P.y2, instObj 425 P.dy2) :: (P.dy2, cellD P.h2 P.tc P.td P.k) :: (P.y1, instObj 425 P.dy1) :: (P.dy1, cellD P.h1 P.ta P.tb P.n)
  :: (P.bl, PySem.W.listOf #[.int P.lv P.b0, .int P.hw P.b1, .int 30 P.b2, .int P.mx P.b3] 0) :: (P.al, PySem.W.listOf #[.int 0 P.a0, .int P.hv P.a1, .int P.lv P.a2, .int P.mn P.a3] 0) :: ledC P o6 o7 o8
/-- the state of the law's frame between its later statements -/
structure LI (P : LP) (h₀ : Heap) (fv : Option Value) (o6 o7 o8 : Obj) (s : Shared) : Prop where
  F : Fr h₀ P.L s.heap (mF P fv)
  N : News h₀ P.L s.heap (ledF P o6 o7 o8)
  d1 : P.o1.data = .cell (some (.int P.lv P.u7))
  d2 : P.o2.data = .cell (some (.int P.pl P.u8))
  d3 : P.o3.data = .cell (some (.int P.lo P.u9))
  d4 : ∃ t, P.o4.data = .cell (some (.int P.st t))
  d5 : P.o5.data = .cell (some (.ref P.y1))
  d6 : ∃ v, o6.data = .cell v
  d7 : ∃ v, o7.data = .cell v
  d8 : ∃ v, o8.data = .cell v
  off1 : Off2 (ledA P) P.y1 P.dy1
  off2 : Off2 (ledA P) P.y2 P.dy2
  off3 : Off2 (ledA P) P.al P.bl
  g : AllBare s.gens
theorem ct_eqB {w : World} {d : Nat} {f : Addr} {vs : List Value} {Pre : Heap → Heap → Prop} {b b' : Bool} (C : Ct w d f vs Pre (fun _ _ v => v = .bool b)) (e : b = b') : Ct w d f vs Pre (fun _ _ v => v = .bool b') := by subst e; exact C
theorem ct_eqI {w : World} {d : Nat} {f : Addr} {vs : List Value} {Pre : Heap → Heap → Prop} {b b' : Int} (C : Ct w d f vs Pre (fun _ _ v => ∃ tk, v = .int b tk)) (e : b = b') : Ct w d f vs Pre (fun _ _ v => ∃ tk, v = .int b' tk) := by subst e; exact C
theorem ct_eqC {w : World} {d : Nat} {f : Addr} {vs : List Value} {Pre : Heap → Heap → Prop} {b b' : Int} (C : Ct w d f vs Pre (fun h h' v => NewC h h' v b)) (e : b = b') : Ct w d f vs Pre (fun h h' v => NewC h h' v b') := by subst e; exact C
end Mine
-- part L2E
namespace Mine
open PySem.W
/-- the numbers of the law's frame -/
structure NumP (P : LP) : Prop where
  lv0 : 0 ≤ P.lv
  lv1 : P.lv ≤ 30
  pl0 : 0 ≤ P.pl
  pl1 : P.pl < 6 * 4 ^ P.lv.toNat
  dp0 : 0 ≤ P.dp
  dp1 : P.dp ≤ 30
  th0 : 0 ≤ P.th
  th1 : P.th < 6 * 4 ^ P.dp.toNat
  dr0 : 0 ≤ P.dr
  dr1 : P.dr ≤ 30
  hv : P.hv = P.lv.fdiv 2
  hw : P.hw = (P.lv + 30).fdiv 2
  mn : P.mn = if P.lv < P.dr then P.lv else P.dr
  mx : P.mx = if P.lv > P.dr then P.lv else P.dr
  le : P.le = 4 ^ (30 - P.lv).toNat
  pa : P.pa = 4 ^ (30 - P.dp).toNat
  lo : P.lo = P.pl * 4 ^ (30 - P.lv).toNat
  hi : P.hi = (P.pl + 1) * 4 ^ (30 - P.lv).toNat
  st : P.st = P.th * 4 ^ (30 - P.dp).toNat
  sp : P.sp = (P.th + 1) * 4 ^ (30 - P.dp).toNat
  n : P.n = (2 * P.pl + 1) * 4 ^ (30 - P.lv).toNat
  k : P.k = (2 * P.th + 1) * 4 ^ (30 - P.dp).toNat
section
variable {w : World} {s : Shared} {h₀ : Heap} {L a sa : Addr} {cd : Value} {mg mb : Str → Option Value} {p : Program} {loose : List Str} {Q : Flow → Shared → Prop} {E : Value → Shared → Prop}
theorem led_sub {D0 D1 D2 D3 : Addr} {T0 T1 T2 T3 : Obj} {x0 x1 x2 x3 x4 x5 : Addr × Obj} {l : List (Addr × Obj)} : ∀ q ∈ x0 :: x1 :: x2 :: x3 :: x4 :: x5 :: l, q ∈ (D0, T0) :: x0 :: x1 :: x2 :: x3 :: (D1, T1) :: (D2, T2) :: (D3, T3) :: x4 :: x5 :: l := by
  intro q hq
  simp only [List.mem_cons] at hq ⊢
  rcases hq with h | h | h | h | h | h | h <;> simp [h]
theorem off2_8 {P : LP} {y dy : Addr} (h : ∀ i : Nat, 1 ≤ i → i ≤ 8 → (@Ne Nat (P.L + i) y) ∧ (@Ne Nat (P.L + i) dy)) : Off2 (ledA P) y dy := by
  intro q hq
  simp only [ledA, ledC, List.mem_cons, List.not_mem_nil, or_false] at hq
  rcases hq with rfl | rfl | rfl | rfl | rfl | rfl | rfl | rfl
  all_goals exact h _ (by decide) (by decide)
theorem off8_of {L y dy : Addr} {news : List (Addr × Obj)} {o1 o2 o3 o4 o5 o6 o7 o8 : Obj} (O : Off2 news y dy) (hs : ∀ q ∈ [(L + 8, o8), (L + 7, o7), (L + 6, o6), (L + 5, o5), (L + 4, o4), (L + 3, o3), (L + 2, o2), (L + 1, o1)], q ∈ news) :
    ∀ i : Nat, 1 ≤ i → i ≤ 8 → (@Ne Nat (L + i) y) ∧ (@Ne Nat (L + i) dy) := by
  intro i h1 h8
  match i, h1, h8 with
  | 1, _, _ => exact O _ (hs (L + 1, o1) (by simp))
  | 2, _, _ => exact O _ (hs (L + 2, o2) (by simp))
  | 3, _, _ => exact O _ (hs (L + 3, o3) (by simp))
  | 4, _, _ => exact O _ (hs (L + 4, o4) (by simp))
  | 5, _, _ => exact O _ (hs (L + 5, o5) (by simp))
  | 6, _, _ => exact O _ (hs (L + 6, o6) (by simp))
  | 7, _, _ => exact O _ (hs (L + 7, o7) (by simp))
  | 8, _, _ => exact O _ (hs (L + 8, o8) (by simp))
theorem head_end {h' : Heap} {tk' : Nat} {y1 dy1 y2 dy2 al bl D0 D1 D2 D3 : Addr} {T0 T1 T2 T3 o1 o2 o3 o4 o5 o6 o7 o8 : Obj} {lv pl dp th dr hv mn hw mx le pa lo hi st0 sp n k h1 h2 : Int}
    {ta tb tc td u0 u1 u2 u3 u4 u5 u6 u7 u8 u9 v0 a0 a1 a2 a3 b0 b1 b2 b3 : Tok}
    (F : Fr h₀ L h' (fun y => if y = PySem.Str.ofString "other" then some (.ref y2) else if y = PySem.Str.ofString "stop" then some (.int sp u0) else if y = PySem.Str.ofString "high" then some (.int hi u1) else if y = PySem.Str.ofString "leaves" then some (.int le u2) else if y = PySem.Str.ofString "parts" then some (.int pa u3) else if y = PySem.Str.ofString "below" then some (.ref bl) else if y = PySem.Str.ofString "above" then some (.ref al) else mD sa dr th dp u4 u5 u6 y))
    (N : News h₀ L h' [(D0, T0), (y2, instObj 425 dy2), (dy2, cellD h2 tc td k), (y1, instObj 425 dy1), (dy1, cellD h1 ta tb n), (D1, T1), (D2, T2), (D3, T3), (bl, PySem.W.listOf #[.int lv b0, .int hw b1, .int 30 b2, .int mx b3] 0), (al, PySem.W.listOf #[.int 0 a0, .int hv a1, .int lv a2, .int mn a3] 0), (L + 8, o8), (L + 7, o7), (L + 6, o6), (L + 5, o5), (L + 4, o4), (L + 3, o3), (L + 2, o2), (L + 1, o1)])
    (d1 : o1.data = .cell (some (.int lv u7))) (d2 : o2.data = .cell (some (.int pl u8))) (d3 : o3.data = .cell (some (.int lo u9))) (d4 : o4.data = .cell (some (.int st0 v0))) (d5 : o5.data = .cell (some (.ref y1))) (d6 : ∃ v, o6.data = .cell v) (d7 : ∃ v, o7.data = .cell v) (d8 : ∃ v, o8.data = .cell v)
    (O1 : ∀ i : Nat, 1 ≤ i → i ≤ 8 → (@Ne Nat (L + i) y1) ∧ (@Ne Nat (L + i) dy1)) (O2 : ∀ i : Nat, 1 ≤ i → i ≤ 8 → (@Ne Nat (L + i) y2) ∧ (@Ne Nat (L + i) dy2)) (O3 : @LT.lt Nat instLTNat (@HAdd.hAdd Nat Nat Nat instHAdd L 8) al ∧ @LT.lt Nat instLTNat (@HAdd.hAdd Nat Nat Nat instHAdd L 8) bl) (g : AllBare s.gens)
    (num : 0 ≤ lv ∧ lv ≤ 30 ∧ 0 ≤ pl ∧ pl < 6 * 4 ^ lv.toNat ∧ 0 ≤ dp ∧ dp ≤ 30 ∧ 0 ≤ th ∧ th < 6 * 4 ^ dp.toNat ∧ 0 ≤ dr ∧ dr ≤ 30)
    (e1 : hv = lv.fdiv 2) (e2 : hw = (lv + 30).fdiv 2) (e3 : mn = if lv < dr then lv else dr) (e4 : mx = if lv > dr then lv else dr) (e5 : le = 4 ^ (30 - lv).toNat) (e6 : pa = 4 ^ (30 - dp).toNat) (e7 : lo = pl * 4 ^ (30 - lv).toNat) (e8 : hi = (pl + 1) * 4 ^ (30 - lv).toNat) (e9 : st0 = th * 4 ^ (30 - dp).toNat) (e10 : sp = (th + 1) * 4 ^ (30 - dp).toNat) (e11 : n = (2 * pl + 1) * 4 ^ (30 - lv).toNat) (e12 : k = (2 * th + 1) * 4 ^ (30 - dp).toNat)
    (h : ∀ (P : LP) o6 o7 o8 h' tk', P.L = L → P.a = a → P.cd = cd → NumP P → LI P h₀ none o6 o7 o8 { s with heap := h', toks := tk' } → wpAny (model PR w) (lawA P.L P.a P.cd) (execs [st 12, st 13, st 14, st 15, st 16, st 17, st 18, st 19, st 20, st 21, st 22, st 23] (lawEnv P.L P.a P.cd)) Q E { s with heap := h', toks := tk' }) :
    wpAny (model PR w) (lawA L a cd) (execs [st 12, st 13, st 14, st 15, st 16, st 17, st 18, st 19, st 20, st 21, st 22, st 23] (lawEnv L a cd)) Q E { s with heap := h', toks := tk' } := by
  obtain ⟨n1, n2, n3, n4, n5, n6, n7, n8, n9, n10⟩ := num
  refine h { L := L, a := a, sa := sa, y1 := y1, dy1 := dy1, y2 := y2, dy2 := dy2, al := al, bl := bl, cd := cd, lv := lv, pl := pl, dp := dp, th := th, dr := dr, hv := hv, mn := mn, hw := hw, mx := mx, le := le, pa := pa, lo := lo, hi := hi, st := st0, sp := sp, n := n, k := k, h1 := h1, h2 := h2, ta := ta, tb := tb, tc := tc, td := td, u0 := u0, u1 := u1, u2 := u2, u3 := u3, u4 := u4, u5 := u5, u6 := u6, u7 := u7, u8 := u8, u9 := u9, a0 := a0, a1 := a1, a2 := a2, a3 := a3, b0 := b0, b1 := b1, b2 := b2, b3 := b3, o1 := o1, o2 := o2, o3 := o3, o4 := o4, o5 := o5 } o6 o7 o8 _ _ rfl rfl rfl
    ⟨n1, n2, n3, n4, n5, n6, n7, n8, n9, n10, e1, e2, e3, e4, e5, e6, e7, e8, e9, e10, e11, e12⟩
    ⟨fr_as F fun y => ?_, fun q hq => N q (led_sub q hq), d1, d2, d3, ⟨_, d4⟩, d5, d6, d7, d8, off2_8 O1, off2_8 O2, off2_8 fun i i1 i8 => ⟨fun e => ?_, fun e => ?_⟩, g⟩
  · by_cases hy : y = PySem.Str.ofString "four"
    · rw [hy]; rfl
    · dsimp only [mF, mD, mS]
      rw [if_neg hy]
  · exact absurd e (Nat.ne_of_lt (Nat.lt_of_le_of_lt (Nat.add_le_add_left i8 L) O3.1))
  · exact absurd e (Nat.ne_of_lt (Nat.lt_of_le_of_lt (Nat.add_le_add_left i8 L) O3.2))
end
end Mine
-- part L2
section
local macro_rules | `(tactic| walk_at "m_room") => `(tactic| ((try simp only [depth_in1, depth_deeper, Around.deeper, Around.mark, depth_under_make]); omega))
local macro_rules | `(tactic| walk_at "m_units") => `(tactic| ((try simp only [units_in1, units_deeper, Around.mark_units]); omega))
local macro_rules | `(tactic| k_units) => `(tactic| walk_at "m_units")
local macro_rules | `(tactic| k_room) => `(tactic| walk_at "m_room")
local macro_rules | `(tactic| walk_at "m_cell") => `(tactic| exact Mine.isCell_of (by k_asm) (by k_mem) (by k_mem))
local macro_rules | `(tactic| walk_at "m_end") => `(tactic| ((try dsimp only); refine' Mine.endK_ ?F ?N ?S ?_; (case F => k_asm); (case N => k_asm); (case S => k_sub)))
local macro_rules | `(tactic| walk_at "getMethod ref") => `(tactic| (k_here; (with_reducible show wpAny _ _ (getMethod (Value.ref _) (PySem.Str.ofString "__class__") _) _ _ _); k_dflt (refine' Mine.meth_class ?F ?X ?I ?_; (case F => k_asm); (case X => k_asm); (case I => k_inst); k_whole)))
local macro_rules | `(tactic| walk_at "eval Name") => `(tactic| (k_here; (with_reducible show wpAny _ _ (eval _ (envOf _ _ _ _ _)) _ _ _); k_dflt (refine' ld ?k1 ?k2 ?_; (case k1 => k_asm); (case k2 => exact rfl); k_whole)))
local macro_rules | `(tactic| walk_at "getMethod ref") => `(tactic| (k_here; k_dflt (refine' method_inst ?k1 ?k2 ?k3 ?k4 ?k5 ?k6 ?k7 ?_; (case k1 => k_asm); (case k2 => k_asm); (case k3 => k_inst); (case k4 => k_is); (case k5 => k_is); (case k6 => k_is); (case k7 => k_get); k_whole)))
local macro_rules | `(tactic| walk_at "callWith ref") => `(tactic| (k_here; (with_reducible show wpAny _ _ (PySem.callWith _ (Value.ref _) _ (backTo _ (starEach [] _)) []) _ _ _); k_dflt (refine' callWith_K0 ?k1 ?k2 ?_; (case k1 => k_in); (case k2 => k_is); k_whole)))
local macro_rules | `(tactic| walk_at "getAttr ref") => `(tactic| (k_here; k_dflt (refine' get_own ?k1 ?k2 ?k3 ?k4 ?k5 ?k6 ?k7 ?k8 ?k9 ?_; (case k1 => k_asm); (case k2 => k_asm); (case k3 => k_inst); (case k4 => k_is); (case k5 => k_is); (case k6 => k_is); (case k7 => k_is); (case k8 => k_get); (case k9 => k_handed); k_whole)))
local macro_rules | `(tactic| walk_at "binaryOp Pow int int") => `(tactic| (k_here; (with_reducible refine pow_int_small ?a ?b ?c ?_); (case a => omega); (case b => omega); (case c => first | decide | omega)))
local macro_rules | `(tactic| walk_at "binaryOp LShift int int") => `(tactic| (k_here; (with_reducible refine lshift_int_small ?a ?b ?c ?_); (case a => omega); (case b => omega); (case c => first | decide | omega)))
local macro_rules | `(tactic| walk_at "call ref") => `(tactic| (k_here; (with_reducible show wpAny _ _ (call (Value.ref 425) _ _) _ _ _); refine' Mine.use_cell (f := 425) ?c (Mine.ct_mk _ _ _ ?v0 ?v1) ?F ?X ?N ?T ?P ?A ?U ?_; (case c => (refine' Mine.calls_of rfl ?e1; (case e1 => exact rfl))); (case F => k_asm); (case X => k_asm); (case N => k_asm); (case T => k_asm); (case P => trivial); (case v0 => first | assumption | omega); (case v1 => first | assumption | omega); (case A => walk_at "m_room"); (case U => walk_at "m_units"); k_whole; intro y' dy' hs' tk1' tn' h' tk'' F' N' O'; (try k_sweep); (try dsimp only)))
local macro_rules | `(tactic| walk_at "call ref") => `(tactic| (k_here; (with_reducible show wpAny _ _ (call (Value.ref 194) _ _) _ _ _); refine' Mine.use_int (f := 194) ?c (Mine.ct_id _ _ _) ?F ?X ?N ?T ?P ?A ?U ?_; (case c => (refine' Mine.calls_of rfl ?e1; (case e1 => exact rfl))); (case F => k_asm); (case X => k_asm); (case N => k_asm); (case T => k_asm); (case P => walk_at "m_cell"); (case A => walk_at "m_room"); (case U => walk_at "m_units"); k_whole; intro tk' h' tk'' F' N'; (try k_sweep); (try dsimp only)))
local macro_rules | `(tactic| walk_at "call ref") => `(tactic| (k_here; (with_reducible show wpAny _ _ (call (Value.ref 208) _ _) _ _ _); refine' Mine.use_int (f := 208) ?c (Mine.ct_lsb _ _ _) ?F ?X ?N ?T ?P ?A ?U ?_; (case c => (refine' Mine.calls_of rfl ?e1; (case e1 => exact rfl))); (case F => k_asm); (case X => k_asm); (case N => k_asm); (case T => k_asm); (case P => walk_at "m_cell"); (case A => walk_at "m_room"); (case U => walk_at "m_units"); k_whole; intro tk' h' tk'' F' N'; (try k_sweep); (try dsimp only)))
local macro_rules | `(tactic| walk_at "call ref") => `(tactic| (k_here; (with_reducible show wpAny _ _ (call (Value.ref 215) _ _) _ _ _); refine' Mine.use_int (f := 215) ?c (Mine.ct_face _ _ _) ?F ?X ?N ?T ?P ?A ?U ?_; (case c => (refine' Mine.calls_of rfl ?e1; (case e1 => exact rfl))); (case F => k_asm); (case X => k_asm); (case N => k_asm); (case T => k_asm); (case P => walk_at "m_cell"); (case A => walk_at "m_room"); (case U => walk_at "m_units"); k_whole; intro tk' h' tk'' F' N'; (try k_sweep); (try dsimp only)))
local macro_rules | `(tactic| walk_at "call ref") => `(tactic| (k_here; (with_reducible show wpAny _ _ (call (Value.ref 222) _ _) _ _ _); refine' Mine.use_int (f := 222) ?c (Mine.ct_pos _ _ _) ?F ?X ?N ?T ?P ?A ?U ?_; (case c => (refine' Mine.calls_of rfl ?e1; (case e1 => exact rfl))); (case F => k_asm); (case X => k_asm); (case N => k_asm); (case T => k_asm); (case P => walk_at "m_cell"); (case A => walk_at "m_room"); (case U => walk_at "m_units"); k_whole; intro tk' h' tk'' F' N'; (try k_sweep); (try dsimp only)))
local macro_rules | `(tactic| walk_at "call ref") => `(tactic| (k_here; (with_reducible show wpAny _ _ (call (Value.ref 229) _ _) _ _ _); refine' Mine.use_bool (f := 229) ?c (Mine.ct_is_leaf _ _ _) ?F ?X ?N ?T ?P ?A ?U ?_; (case c => (refine' Mine.calls_of rfl ?e1; (case e1 => exact rfl))); (case F => k_asm); (case X => k_asm); (case N => k_asm); (case T => k_asm); (case P => walk_at "m_cell"); (case A => walk_at "m_room"); (case U => walk_at "m_units"); k_whole; intro h' tk'' F' N'; (try dsimp only [PySem.W.CmpBack]); (try k_sweep); (try dsimp only)))
local macro_rules | `(tactic| walk_at "call ref") => `(tactic| (k_here; (with_reducible show wpAny _ _ (call (Value.ref 149) _ _) _ _ _); refine' Mine.use_int (f := 149) ?c (Mine.ct_lsbl _ _ _ ?v0 ?v1) ?F ?X ?N ?T ?P ?A ?U ?_; (case c => (refine' Mine.calls_of rfl ?e1; (case e1 => exact rfl))); (case F => k_asm); (case X => k_asm); (case N => k_asm); (case T => k_asm); (case P => trivial); (case v0 => first | assumption | omega); (case v1 => first | assumption | omega); (case A => walk_at "m_room"); (case U => walk_at "m_units"); k_whole; intro tk' h' tk'' F' N'; (try k_sweep); (try dsimp only)))
local macro_rules | `(tactic| walk_at "call ref") => `(tactic| (k_here; (with_reducible show wpAny _ _ (call (Value.ref _) _ _) _ _ _); refine' Mine.use_int (f := 149) ?c (Mine.ct_lsbl _ _ _ ?v0 ?v1) ?F ?X ?N ?T ?P ?A ?U ?_; (case c => (refine' Mine.calls_meth' ?q2 ?N2 rfl ?e2; (case N2 => k_asm); (case q2 => k_mem); (case e2 => exact rfl))); (case F => k_asm); (case X => k_asm); (case N => k_asm); (case T => k_asm); (case P => trivial); (case v0 => first | assumption | omega); (case v1 => first | assumption | omega); (case A => walk_at "m_room"); (case U => walk_at "m_units"); k_whole; intro tk' h' tk'' F' N'; (try k_sweep); (try dsimp only)))
local macro_rules | `(tactic| walk_at "call ref") => `(tactic| (k_here; (with_reducible show wpAny _ _ (call (Value.ref 187) _ _) _ _ _); refine' Mine.use_bool (f := 187) ?c (Mine.ct_is_face _ _ _) ?F ?X ?N ?T ?P ?A ?U ?_; (case c => (refine' Mine.calls_of rfl ?e1; (case e1 => exact rfl))); (case F => k_asm); (case X => k_asm); (case N => k_asm); (case T => k_asm); (case P => walk_at "m_cell"); (case A => walk_at "m_room"); (case U => walk_at "m_units"); k_whole; intro h' tk'' F' N'; (try dsimp only [PySem.W.CmpBack]); (try k_sweep); (try dsimp only)))
local macro_rules | `(tactic| walk_at "call ref") => `(tactic| (k_here; (with_reducible show wpAny _ _ (call (Value.ref 201) _ _) _ _ _); refine' Mine.use_bool (f := 201) ?c (Mine.ct_is_valid _ _ _ ?v0) ?F ?X ?N ?T ?P ?A ?U ?_; (case c => (refine' Mine.calls_of rfl ?e1; (case e1 => exact rfl))); (case F => k_asm); (case X => k_asm); (case N => k_asm); (case T => k_asm); (case P => walk_at "m_cell"); (case v0 => first | assumption | omega); (case A => walk_at "m_room"); (case U => walk_at "m_units"); k_whole; intro h' tk'' F' N'; (try dsimp only [PySem.W.CmpBack]); (try k_sweep); (try dsimp only)))
local macro_rules | `(tactic| walk_at "call ref") => `(tactic| (k_here; (with_reducible show wpAny _ _ (call (Value.ref 278) _ _) _ _ _); refine' Mine.use_cell (f := 278) ?c (Mine.ct_range_min _ _ _ ?v0) ?F ?X ?N ?T ?P ?A ?U ?_; (case c => (refine' Mine.calls_of rfl ?e1; (case e1 => exact rfl))); (case F => k_asm); (case X => k_asm); (case N => k_asm); (case T => k_asm); (case P => walk_at "m_cell"); (case v0 => first | assumption | omega); (case A => walk_at "m_room"); (case U => walk_at "m_units"); k_whole; intro y' dy' hs' tk1' tn' h' tk'' F' N' O'; (try k_sweep); (try dsimp only)))
local macro_rules | `(tactic| walk_at "call ref") => `(tactic| (k_here; (with_reducible show wpAny _ _ (call (Value.ref 285) _ _) _ _ _); refine' Mine.use_cell (f := 285) ?c (Mine.ct_range_max _ _ _ ?v0) ?F ?X ?N ?T ?P ?A ?U ?_; (case c => (refine' Mine.calls_of rfl ?e1; (case e1 => exact rfl))); (case F => k_asm); (case X => k_asm); (case N => k_asm); (case T => k_asm); (case P => walk_at "m_cell"); (case v0 => first | assumption | omega); (case A => walk_at "m_room"); (case U => walk_at "m_units"); k_whole; intro y' dy' hs' tk1' tn' h' tk'' F' N' O'; (try k_sweep); (try dsimp only)))
local macro_rules | `(tactic| walk_at "call ref") => `(tactic| (k_here; (with_reducible show wpAny _ _ (call (Value.ref 71) _ _) _ _ _); refine' Mine.use_bool (f := 71) ?c (Mine.ct_lt _ _ _ _ _) ?F ?X ?N ?T ?P ?A ?U ?_; (case c => (refine' Mine.calls_of rfl ?e1; (case e1 => exact rfl))); (case F => k_asm); (case X => k_asm); (case N => k_asm); (case T => k_asm); (case P => exact ⟨by walk_at "m_cell", by walk_at "m_cell"⟩); (case A => walk_at "m_room"); (case U => walk_at "m_units"); k_whole; intro h' tk'' F' N'; (try dsimp only [PySem.W.CmpBack]); (try k_sweep); (try dsimp only)))
local macro_rules | `(tactic| walk_at "call ref") => `(tactic| (k_here; (with_reducible show wpAny _ _ (call (Value.ref 92) _ _) _ _ _); refine' Mine.use_bool (f := 92) ?c (Mine.ct_ge _ _ _ _ _) ?F ?X ?N ?T ?P ?A ?U ?_; (case c => (refine' Mine.calls_of rfl ?e1; (case e1 => exact rfl))); (case F => k_asm); (case X => k_asm); (case N => k_asm); (case T => k_asm); (case P => exact ⟨by walk_at "m_cell", by walk_at "m_cell"⟩); (case A => walk_at "m_room"); (case U => walk_at "m_units"); k_whole; intro h' tk'' F' N'; (try dsimp only [PySem.W.CmpBack]); (try k_sweep); (try dsimp only)))
local macro_rules | `(tactic| walk_at "call ref") => `(tactic| (k_here; (with_reducible show wpAny _ _ (call (Value.ref 57) _ _) _ _ _); refine' Mine.use_bool (f := 57) ?c (Mine.ct_eq _ _ _ _ _) ?F ?X ?N ?T ?P ?A ?U ?_; (case c => (refine' Mine.calls_of rfl ?e1; (case e1 => exact rfl))); (case F => k_asm); (case X => k_asm); (case N => k_asm); (case T => k_asm); (case P => exact ⟨by walk_at "m_cell", by walk_at "m_cell"⟩); (case A => walk_at "m_room"); (case U => walk_at "m_units"); k_whole; intro h' tk'' F' N'; (try dsimp only [PySem.W.CmpBack]); (try k_sweep); (try dsimp only)))
local macro_rules | `(tactic| walk_at "call ref") => `(tactic| (k_here; (with_reducible show wpAny _ _ (call (Value.ref 78) _ _) _ _ _); refine' Mine.use_bool (f := 78) ?c (Mine.ct_le _ _ _ _ _) ?F ?X ?N ?T ?P ?A ?U ?_; (case c => (refine' Mine.calls_of rfl ?e1; (case e1 => exact rfl))); (case F => k_asm); (case X => k_asm); (case N => k_asm); (case T => k_asm); (case P => exact ⟨by walk_at "m_cell", by walk_at "m_cell"⟩); (case A => walk_at "m_room"); (case U => walk_at "m_units"); k_whole; intro h' tk'' F' N'; (try dsimp only [PySem.W.CmpBack]); (try k_sweep); (try dsimp only)))
local macro_rules | `(tactic| walk_at "call ref") => `(tactic| (k_here; (with_reducible show wpAny _ _ (call (Value.ref 64) _ _) _ _ _); refine' Mine.use_bool (f := 64) ?c (Mine.ct_ne _ _ _ _ _) ?F ?X ?N ?T ?P ?A ?U ?_; (case c => (refine' Mine.calls_of rfl ?e1; (case e1 => exact rfl))); (case F => k_asm); (case X => k_asm); (case N => k_asm); (case T => k_asm); (case P => exact ⟨by walk_at "m_cell", by walk_at "m_cell"⟩); (case A => walk_at "m_room"); (case U => walk_at "m_units"); k_whole; intro h' tk'' F' N'; (try dsimp only [PySem.W.CmpBack]); (try k_sweep); (try dsimp only)))
local macro_rules | `(tactic| walk_at "call ref") => `(tactic| (k_here; (with_reducible show wpAny _ _ (call (Value.ref 236) _ _) _ _ _); refine' Mine.use_int (f := 236) ?c (Mine.ct_level _ _ _ _ ?v0) ?F ?X ?N ?T ?P ?A ?U ?_; (case c => (refine' Mine.calls_of rfl ?e1; (case e1 => exact rfl))); (case F => k_asm); (case X => k_asm); (case N => k_asm); (case T => k_asm); (case P => walk_at "m_cell"); (case v0 => first | assumption | omega); (case A => walk_at "m_room"); (case U => walk_at "m_units"); k_whole; intro tk' h' tk'' F' N'; (try k_sweep); (try dsimp only)))
local macro_rules | `(tactic| walk_at "call ref") => `(tactic| (k_here; (with_reducible show wpAny _ _ (call (Value.ref 173) _ _) _ _ _); refine' Mine.use_bool (f := 173) ?c (Mine.ct_contains _ _ _ _ _ ?v0 ?v1) ?F ?X ?N ?T ?P ?A ?U ?_; (case c => (refine' Mine.calls_of rfl ?e1; (case e1 => exact rfl))); (case F => k_asm); (case X => k_asm); (case N => k_asm); (case T => k_asm); (case P => exact ⟨by walk_at "m_cell", by walk_at "m_cell"⟩); (case v0 => first | assumption | omega); (case v1 => first | assumption | omega); (case A => walk_at "m_room"); (case U => walk_at "m_units"); k_whole; intro h' tk'' F' N'; (try dsimp only [PySem.W.CmpBack]); (try k_sweep); (try dsimp only)))
local macro_rules | `(tactic| walk_at "call ref") => `(tactic| (k_here; (with_reducible show wpAny _ _ (call (Value.ref 180) _ _) _ _ _); refine' Mine.use_bool (f := 180) ?c (Mine.ct_intersects _ _ _ _ _ ?v0 ?v1) ?F ?X ?N ?T ?P ?A ?U ?_; (case c => (refine' Mine.calls_of rfl ?e1; (case e1 => exact rfl))); (case F => k_asm); (case X => k_asm); (case N => k_asm); (case T => k_asm); (case P => exact ⟨by walk_at "m_cell", by walk_at "m_cell"⟩); (case v0 => first | assumption | omega); (case v1 => first | assumption | omega); (case A => walk_at "m_room"); (case U => walk_at "m_units"); k_whole; intro h' tk'' F' N'; (try dsimp only [PySem.W.CmpBack]); (try k_sweep); (try dsimp only)))
local macro_rules | `(tactic| walk_at "call ref") => `(tactic| (k_here; (with_reducible show wpAny _ _ (call (Value.ref 159) _ _) _ _ _); refine' Mine.use_cell (f := 159) ?c (Mine.ct_parent1 _ _ _ _ _ _ ?v0 ?v1 ?v2 ?v3 ?v4 ?v5 ?v6) ?F ?X ?N ?T ?P ?A ?U ?_; (case c => (refine' Mine.calls_of rfl ?e1; (case e1 => exact rfl))); (case F => k_asm); (case X => k_asm); (case N => k_asm); (case T => k_asm); (case P => walk_at "m_cell"); (case v0 => first | assumption | omega); (case v1 => first | assumption | omega); (case v2 => first | assumption | omega); (case v3 => first | assumption | omega); (case v4 => first | assumption | omega); (case v5 => first | assumption | omega); (case v6 => first | assumption | omega); (case A => walk_at "m_room"); (case U => walk_at "m_units"); k_whole; intro y' dy' hs' tk1' tn' h' tk'' F' N' O'; (try k_sweep); (try dsimp only)))
local macro_rules | `(tactic| k_ne) => `(tactic| first | ((refine' Mine.off_a ?o ?m); (case o => with_reducible assumption); (case m => k_mem)) | ((refine' Mine.off_b ?o ?m); (case o => with_reducible assumption); (case m => k_mem)))
local macro_rules | `(tactic| walk_at "call ref") => `(tactic| (k_here; (with_reducible show wpAny _ _ (call (Value.ref 436) _ _) _ _ _); refine' Mine.use_int (f := 436) ?c (Mine.ct_law_id _ _ _ _ _ ?v0 ?v1 ?v2 ?v3) ?F ?X ?N ?T ?P ?A ?U ?_; (case c => (refine' Mine.calls_of rfl ?e1; (case e1 => exact rfl))); (case F => k_asm); (case X => k_asm); (case N => k_asm); (case T => k_asm); (case P => trivial); (case v0 => first | assumption | omega); (case v1 => first | assumption | omega); (case v2 => first | assumption | omega); (case v3 => first | assumption | omega); (case A => walk_at "m_room"); (case U => walk_at "m_units"); k_whole; intro tk' h' tk'' F' N'; (try k_sweep); (try dsimp only)))
local macro_rules | `(tactic| walk_at "execs cons") => `(tactic| (k_here; refine wpAny_execs_cons ?_))
local macro_rules | `(tactic| walk_at "execs nil") => `(tactic| (k_here; refine wpAny_execs_nil ?_))
local macro_rules | `(tactic| walk_at "binaryOp FloorDiv int int") => `(tactic| (k_here; (with_reducible refine floordiv_int ?kbe ?_ (Or.inl (PyProof.noPylong_of_log2 (Mine.np_small ?k0 ?k1)))); (case kbe => omega); (case k0 => omega); (case k1 => omega)))
local macro_rules | `(tactic| walk_at "m_sub") => `(tactic| (intro p hp; repeat (first | exact hp | refine List.Mem.tail _ ?_)))
namespace Mine
open PySem.W
theorem p4_split (lv : Int) (h0 : 0 ≤ lv) (h1 : lv ≤ 30) : (4 : Int) ^ lv.toNat * 4 ^ (30 - lv).toNat = 1152921504606846976 := by
  rw [← Int.pow_add]
  have : lv.toNat + (30 - lv).toNat = 30 := by omega
  rw [this]
  decide
theorem mul_lt_of {a b c d : Int} (hd : 0 < d) (h : a < b) (e : b * d = c) : a * d < c := by
  rw [← e]; exact Int.mul_lt_mul_of_pos_right h hd
theorem nn_b (pl lv : Int) (h0 : 0 ≤ lv) (h1 : lv ≤ 30) (p0 : 0 ≤ pl) (p1 : pl < 6 * 4 ^ lv.toNat) :
    0 < (2 * pl + 1) * 4 ^ (30 - lv).toNat ∧ (2 * pl + 1) * 4 ^ (30 - lv).toNat < 13835058055282163712 ∧ pl ≤ 6917529027641081855 ∧ 1 ≤ (4 : Int) ^ (30 - lv).toNat ∧ (4 : Int) ^ (30 - lv).toNat ≤ 1152921504606846976 := by
  have e := p4_split lv h0 h1
  have q1 := p4_pos (30 - lv).toNat
  have q2 : (4 : Int) ^ (30 - lv).toNat ≤ 1152921504606846976 := p4_30 (by omega)
  have q3 : (4 : Int) ^ lv.toNat ≤ 1152921504606846976 := p4_30 (by omega)
  refine ⟨Int.mul_pos (by omega) (by omega), mul_lt_of (b := 12 * 4 ^ lv.toNat) (by omega) (by omega) ?_, by omega, q1, q2⟩
  rw [Int.mul_assoc, e]; decide
section
variable {w : World} {s : Shared} {h₀ : Heap} {L a sa : Addr} {cd : Value} {mg mb : Str → Option Value} {p : Program} {loose : List Str} {Q : Flow → Shared → Prop} {E : Value → Shared → Prop}
  {o1 o2 o3 o4 o5 o6 o7 o8 : Obj} {lv pl dp th dr : Int} {t0 t1 t2 t3 t4 : Tok}
theorem head1 (X : (hd.heap_39 w.params).In h₀) (T : TopRead p loose mg mb h₀) (lv0 : 0 ≤ lv) (lv1 : lv ≤ 30) (pl0 : 0 ≤ pl) (pl1 : pl < 6 * 4 ^ lv.toNat) (dp0 : 0 ≤ dp) (dp1 : dp ≤ 30) (th0 : 0 ≤ th) (th1 : th < 6 * 4 ^ dp.toNat) (dr0 : 0 ≤ dr) (dr1 : dr ≤ 30)
    (F : Fr h₀ L s.heap (mD sa dr th dp t2 t3 t4)) (N : News h₀ L s.heap [(L + 8, o8), (L + 7, o7), (L + 6, o6), (L + 5, o5), (L + 4, o4), (L + 3, o3), (L + 2, o2), (L + 1, o1)]) (d1 : o1.data = .cell (some (.int lv t0))) (d2 : o2.data = .cell (some (.int pl t1))) (d3 : o3.data = .cell none) (d4 : o4.data = .cell none) (d5 : o5.data = .cell none) (d6 : ∃ v, o6.data = .cell v) (d7 : ∃ v, o7.data = .cell v) (d8 : ∃ v, o8.data = .cell v) (g : AllBare s.gens)
    (h : ∀ (P : LP) o6 o7 o8 h' tk', P.L = L → P.a = a → P.cd = cd → NumP P → LI P h₀ none o6 o7 o8 { s with heap := h', toks := tk' } → wpAny (model PR w) (lawA P.L P.a P.cd) (execs [st 12, st 13, st 14, st 15, st 16, st 17, st 18, st 19, st 20, st 21, st 22, st 23] (lawEnv P.L P.a P.cd)) Q E { s with heap := h', toks := tk' }) :
    wpAny (model PR w) (lawA L a cd) (execs [st 6, st 7, st 8, st 9, st 10, st 11, st 12, st 13, st 14, st 15, st 16, st 17, st 18, st 19, st 20, st 21, st 22, st 23] (lawEnv L a cd)) Q E s := by
  generalize hR : [st 12, st 13, st 14, st 15, st 16, st 17, st 18, st 19, st 20, st 21, st 22, st 23] = R
  unfold lawEnv
  have hA := lawA_d L a cd
  have hu := lawA_u L a cd
  obtain ⟨n0, n1, plB, q1, q2⟩ := nn_b pl lv lv0 lv1 pl0 pl1
  obtain ⟨k0, k1, thB, q3, q4⟩ := nn_b th dp dp0 dp1 th0 th1
  refine wpAny_execs_cons (exec_is (st' := ?S6) ?e6 ?_)
  case e6 => conv => lhs; whnf
  k_steps
  all_goals (try k_data)
  refine exec_is (st' := ?S7) ?e7 ?_
  case e7 => conv => lhs; whnf
  k_steps
  all_goals (try k_data)
  refine exec_is (st' := ?S8) ?e8 ?_
  case e8 => conv => lhs; whnf
  k_steps
  all_goals (try k_data)
  refine exec_is (st' := ?S9) ?e9 ?_
  case e9 => conv => lhs; whnf
  k_steps
  all_goals (try k_data)
  refine exec_is (st' := ?S10) ?e10 ?_
  case e10 => conv => lhs; whnf
  k_steps
  all_goals (try k_data)
  refine exec_is (st' := ?S11) ?e11 ?_
  case e11 => conv => lhs; whnf
  k_steps
  all_goals (try k_data)
  subst hR
  refine head_end (by k_asm) (by k_asm) d1 d2 (by assumption) (by assumption) (by assumption) d6 d7 d8 (off8_of (by assumption) (by walk_at "m_sub")) (off8_of (by assumption) (by walk_at "m_sub")) ?O3 g ⟨lv0, lv1, pl0, pl1, dp0, dp1, th0, th1, dr0, dr1⟩ rfl rfl rfl rfl rfl rfl rfl rfl rfl rfl rfl rfl h
  exact ⟨by omega, by omega⟩
end
end Mine
end
-- part GN1
section
local macro_rules | `(tactic| walk_at "m_room") => `(tactic| ((try simp only [depth_in1, depth_deeper, Around.deeper, Around.mark, depth_under_make]); omega))
local macro_rules | `(tactic| walk_at "m_units") => `(tactic| ((try simp only [units_in1, units_deeper, Around.mark_units]); omega))
local macro_rules | `(tactic| k_units) => `(tactic| walk_at "m_units")
local macro_rules | `(tactic| k_room) => `(tactic| walk_at "m_room")
local macro_rules | `(tactic| walk_at "m_cell") => `(tactic| exact Mine.isCell_of (by k_asm) (by k_mem) (by k_mem))
local macro_rules | `(tactic| walk_at "m_end") => `(tactic| ((try dsimp only); refine' Mine.endK_ ?F ?N ?S ?_; (case F => k_asm); (case N => k_asm); (case S => k_sub)))
local macro_rules | `(tactic| walk_at "getMethod ref") => `(tactic| (k_here; (with_reducible show wpAny _ _ (getMethod (Value.ref _) (PySem.Str.ofString "__class__") _) _ _ _); k_dflt (refine' Mine.meth_class ?F ?X ?I ?_; (case F => k_asm); (case X => k_asm); (case I => k_inst); k_whole)))
local macro_rules | `(tactic| walk_at "eval Name") => `(tactic| (k_here; (with_reducible show wpAny _ _ (eval _ (envOf _ _ _ _ _)) _ _ _); k_dflt (refine' ld ?k1 ?k2 ?_; (case k1 => k_asm); (case k2 => exact rfl); k_whole)))
local macro_rules | `(tactic| walk_at "getMethod ref") => `(tactic| (k_here; k_dflt (refine' method_inst ?k1 ?k2 ?k3 ?k4 ?k5 ?k6 ?k7 ?_; (case k1 => k_asm); (case k2 => k_asm); (case k3 => k_inst); (case k4 => k_is); (case k5 => k_is); (case k6 => k_is); (case k7 => k_get); k_whole)))
local macro_rules | `(tactic| walk_at "callWith ref") => `(tactic| (k_here; (with_reducible show wpAny _ _ (PySem.callWith _ (Value.ref _) _ (backTo _ (starEach [] _)) []) _ _ _); k_dflt (refine' callWith_K0 ?k1 ?k2 ?_; (case k1 => k_in); (case k2 => k_is); k_whole)))
local macro_rules | `(tactic| walk_at "getAttr ref") => `(tactic| (k_here; k_dflt (refine' get_own ?k1 ?k2 ?k3 ?k4 ?k5 ?k6 ?k7 ?k8 ?k9 ?_; (case k1 => k_asm); (case k2 => k_asm); (case k3 => k_inst); (case k4 => k_is); (case k5 => k_is); (case k6 => k_is); (case k7 => k_is); (case k8 => k_get); (case k9 => k_handed); k_whole)))
local macro_rules | `(tactic| walk_at "binaryOp Pow int int") => `(tactic| (k_here; (with_reducible refine pow_int_small ?a ?b ?c ?_); (case a => omega); (case b => omega); (case c => first | decide | omega)))
local macro_rules | `(tactic| walk_at "binaryOp LShift int int") => `(tactic| (k_here; (with_reducible refine lshift_int_small ?a ?b ?c ?_); (case a => omega); (case b => omega); (case c => first | decide | omega)))
local macro_rules | `(tactic| walk_at "call ref") => `(tactic| (k_here; (with_reducible show wpAny _ _ (call (Value.ref 425) _ _) _ _ _); refine' Mine.use_cell (f := 425) ?c (Mine.ct_mk _ _ _ ?v0 ?v1) ?F ?X ?N ?T ?P ?A ?U ?_; (case c => (refine' Mine.calls_of rfl ?e1; (case e1 => exact rfl))); (case F => k_asm); (case X => k_asm); (case N => k_asm); (case T => k_asm); (case P => trivial); (case v0 => first | assumption | omega); (case v1 => first | assumption | omega); (case A => walk_at "m_room"); (case U => walk_at "m_units"); k_whole; intro y' dy' hs' tk1' tn' h' tk'' F' N' O'; (try k_sweep); (try dsimp only)))
local macro_rules | `(tactic| walk_at "call ref") => `(tactic| (k_here; (with_reducible show wpAny _ _ (call (Value.ref 194) _ _) _ _ _); refine' Mine.use_int (f := 194) ?c (Mine.ct_id _ _ _) ?F ?X ?N ?T ?P ?A ?U ?_; (case c => (refine' Mine.calls_of rfl ?e1; (case e1 => exact rfl))); (case F => k_asm); (case X => k_asm); (case N => k_asm); (case T => k_asm); (case P => walk_at "m_cell"); (case A => walk_at "m_room"); (case U => walk_at "m_units"); k_whole; intro tk' h' tk'' F' N'; (try k_sweep); (try dsimp only)))
local macro_rules | `(tactic| walk_at "call ref") => `(tactic| (k_here; (with_reducible show wpAny _ _ (call (Value.ref 208) _ _) _ _ _); refine' Mine.use_int (f := 208) ?c (Mine.ct_lsb _ _ _) ?F ?X ?N ?T ?P ?A ?U ?_; (case c => (refine' Mine.calls_of rfl ?e1; (case e1 => exact rfl))); (case F => k_asm); (case X => k_asm); (case N => k_asm); (case T => k_asm); (case P => walk_at "m_cell"); (case A => walk_at "m_room"); (case U => walk_at "m_units"); k_whole; intro tk' h' tk'' F' N'; (try k_sweep); (try dsimp only)))
local macro_rules | `(tactic| walk_at "call ref") => `(tactic| (k_here; (with_reducible show wpAny _ _ (call (Value.ref 215) _ _) _ _ _); refine' Mine.use_int (f := 215) ?c (Mine.ct_face _ _ _) ?F ?X ?N ?T ?P ?A ?U ?_; (case c => (refine' Mine.calls_of rfl ?e1; (case e1 => exact rfl))); (case F => k_asm); (case X => k_asm); (case N => k_asm); (case T => k_asm); (case P => walk_at "m_cell"); (case A => walk_at "m_room"); (case U => walk_at "m_units"); k_whole; intro tk' h' tk'' F' N'; (try k_sweep); (try dsimp only)))
local macro_rules | `(tactic| walk_at "call ref") => `(tactic| (k_here; (with_reducible show wpAny _ _ (call (Value.ref 222) _ _) _ _ _); refine' Mine.use_int (f := 222) ?c (Mine.ct_pos _ _ _) ?F ?X ?N ?T ?P ?A ?U ?_; (case c => (refine' Mine.calls_of rfl ?e1; (case e1 => exact rfl))); (case F => k_asm); (case X => k_asm); (case N => k_asm); (case T => k_asm); (case P => walk_at "m_cell"); (case A => walk_at "m_room"); (case U => walk_at "m_units"); k_whole; intro tk' h' tk'' F' N'; (try k_sweep); (try dsimp only)))
local macro_rules | `(tactic| walk_at "call ref") => `(tactic| (k_here; (with_reducible show wpAny _ _ (call (Value.ref 229) _ _) _ _ _); refine' Mine.use_bool (f := 229) ?c (Mine.ct_is_leaf _ _ _) ?F ?X ?N ?T ?P ?A ?U ?_; (case c => (refine' Mine.calls_of rfl ?e1; (case e1 => exact rfl))); (case F => k_asm); (case X => k_asm); (case N => k_asm); (case T => k_asm); (case P => walk_at "m_cell"); (case A => walk_at "m_room"); (case U => walk_at "m_units"); k_whole; intro h' tk'' F' N'; (try dsimp only [PySem.W.CmpBack]); (try k_sweep); (try dsimp only)))
local macro_rules | `(tactic| walk_at "call ref") => `(tactic| (k_here; (with_reducible show wpAny _ _ (call (Value.ref 149) _ _) _ _ _); refine' Mine.use_int (f := 149) ?c (Mine.ct_lsbl _ _ _ ?v0 ?v1) ?F ?X ?N ?T ?P ?A ?U ?_; (case c => (refine' Mine.calls_of rfl ?e1; (case e1 => exact rfl))); (case F => k_asm); (case X => k_asm); (case N => k_asm); (case T => k_asm); (case P => trivial); (case v0 => first | assumption | omega); (case v1 => first | assumption | omega); (case A => walk_at "m_room"); (case U => walk_at "m_units"); k_whole; intro tk' h' tk'' F' N'; (try k_sweep); (try dsimp only)))
local macro_rules | `(tactic| walk_at "call ref") => `(tactic| (k_here; (with_reducible show wpAny _ _ (call (Value.ref _) _ _) _ _ _); refine' Mine.use_int (f := 149) ?c (Mine.ct_lsbl _ _ _ ?v0 ?v1) ?F ?X ?N ?T ?P ?A ?U ?_; (case c => (refine' Mine.calls_meth' ?q2 ?N2 rfl ?e2; (case N2 => k_asm); (case q2 => k_mem); (case e2 => exact rfl))); (case F => k_asm); (case X => k_asm); (case N => k_asm); (case T => k_asm); (case P => trivial); (case v0 => first | assumption | omega); (case v1 => first | assumption | omega); (case A => walk_at "m_room"); (case U => walk_at "m_units"); k_whole; intro tk' h' tk'' F' N'; (try k_sweep); (try dsimp only)))
local macro_rules | `(tactic| walk_at "call ref") => `(tactic| (k_here; (with_reducible show wpAny _ _ (call (Value.ref 187) _ _) _ _ _); refine' Mine.use_bool (f := 187) ?c (Mine.ct_is_face _ _ _) ?F ?X ?N ?T ?P ?A ?U ?_; (case c => (refine' Mine.calls_of rfl ?e1; (case e1 => exact rfl))); (case F => k_asm); (case X => k_asm); (case N => k_asm); (case T => k_asm); (case P => walk_at "m_cell"); (case A => walk_at "m_room"); (case U => walk_at "m_units"); k_whole; intro h' tk'' F' N'; (try dsimp only [PySem.W.CmpBack]); (try k_sweep); (try dsimp only)))
local macro_rules | `(tactic| walk_at "call ref") => `(tactic| (k_here; (with_reducible show wpAny _ _ (call (Value.ref 201) _ _) _ _ _); refine' Mine.use_bool (f := 201) ?c (Mine.ct_is_valid _ _ _ ?v0) ?F ?X ?N ?T ?P ?A ?U ?_; (case c => (refine' Mine.calls_of rfl ?e1; (case e1 => exact rfl))); (case F => k_asm); (case X => k_asm); (case N => k_asm); (case T => k_asm); (case P => walk_at "m_cell"); (case v0 => first | assumption | omega); (case A => walk_at "m_room"); (case U => walk_at "m_units"); k_whole; intro h' tk'' F' N'; (try dsimp only [PySem.W.CmpBack]); (try k_sweep); (try dsimp only)))
local macro_rules | `(tactic| walk_at "call ref") => `(tactic| (k_here; (with_reducible show wpAny _ _ (call (Value.ref 278) _ _) _ _ _); refine' Mine.use_cell (f := 278) ?c (Mine.ct_range_min _ _ _ ?v0) ?F ?X ?N ?T ?P ?A ?U ?_; (case c => (refine' Mine.calls_of rfl ?e1; (case e1 => exact rfl))); (case F => k_asm); (case X => k_asm); (case N => k_asm); (case T => k_asm); (case P => walk_at "m_cell"); (case v0 => first | assumption | omega); (case A => walk_at "m_room"); (case U => walk_at "m_units"); k_whole; intro y' dy' hs' tk1' tn' h' tk'' F' N' O'; (try k_sweep); (try dsimp only)))
local macro_rules | `(tactic| walk_at "call ref") => `(tactic| (k_here; (with_reducible show wpAny _ _ (call (Value.ref 285) _ _) _ _ _); refine' Mine.use_cell (f := 285) ?c (Mine.ct_range_max _ _ _ ?v0) ?F ?X ?N ?T ?P ?A ?U ?_; (case c => (refine' Mine.calls_of rfl ?e1; (case e1 => exact rfl))); (case F => k_asm); (case X => k_asm); (case N => k_asm); (case T => k_asm); (case P => walk_at "m_cell"); (case v0 => first | assumption | omega); (case A => walk_at "m_room"); (case U => walk_at "m_units"); k_whole; intro y' dy' hs' tk1' tn' h' tk'' F' N' O'; (try k_sweep); (try dsimp only)))
local macro_rules | `(tactic| walk_at "call ref") => `(tactic| (k_here; (with_reducible show wpAny _ _ (call (Value.ref 71) _ _) _ _ _); refine' Mine.use_bool (f := 71) ?c (Mine.ct_lt _ _ _ _ _) ?F ?X ?N ?T ?P ?A ?U ?_; (case c => (refine' Mine.calls_of rfl ?e1; (case e1 => exact rfl))); (case F => k_asm); (case X => k_asm); (case N => k_asm); (case T => k_asm); (case P => exact ⟨by walk_at "m_cell", by walk_at "m_cell"⟩); (case A => walk_at "m_room"); (case U => walk_at "m_units"); k_whole; intro h' tk'' F' N'; (try dsimp only [PySem.W.CmpBack]); (try k_sweep); (try dsimp only)))
local macro_rules | `(tactic| walk_at "call ref") => `(tactic| (k_here; (with_reducible show wpAny _ _ (call (Value.ref 92) _ _) _ _ _); refine' Mine.use_bool (f := 92) ?c (Mine.ct_ge _ _ _ _ _) ?F ?X ?N ?T ?P ?A ?U ?_; (case c => (refine' Mine.calls_of rfl ?e1; (case e1 => exact rfl))); (case F => k_asm); (case X => k_asm); (case N => k_asm); (case T => k_asm); (case P => exact ⟨by walk_at "m_cell", by walk_at "m_cell"⟩); (case A => walk_at "m_room"); (case U => walk_at "m_units"); k_whole; intro h' tk'' F' N'; (try dsimp only [PySem.W.CmpBack]); (try k_sweep); (try dsimp only)))
local macro_rules | `(tactic| walk_at "call ref") => `(tactic| (k_here; (with_reducible show wpAny _ _ (call (Value.ref 57) _ _) _ _ _); refine' Mine.use_bool (f := 57) ?c (Mine.ct_eq _ _ _ _ _) ?F ?X ?N ?T ?P ?A ?U ?_; (case c => (refine' Mine.calls_of rfl ?e1; (case e1 => exact rfl))); (case F => k_asm); (case X => k_asm); (case N => k_asm); (case T => k_asm); (case P => exact ⟨by walk_at "m_cell", by walk_at "m_cell"⟩); (case A => walk_at "m_room"); (case U => walk_at "m_units"); k_whole; intro h' tk'' F' N'; (try dsimp only [PySem.W.CmpBack]); (try k_sweep); (try dsimp only)))
local macro_rules | `(tactic| walk_at "call ref") => `(tactic| (k_here; (with_reducible show wpAny _ _ (call (Value.ref 78) _ _) _ _ _); refine' Mine.use_bool (f := 78) ?c (Mine.ct_le _ _ _ _ _) ?F ?X ?N ?T ?P ?A ?U ?_; (case c => (refine' Mine.calls_of rfl ?e1; (case e1 => exact rfl))); (case F => k_asm); (case X => k_asm); (case N => k_asm); (case T => k_asm); (case P => exact ⟨by walk_at "m_cell", by walk_at "m_cell"⟩); (case A => walk_at "m_room"); (case U => walk_at "m_units"); k_whole; intro h' tk'' F' N'; (try dsimp only [PySem.W.CmpBack]); (try k_sweep); (try dsimp only)))
local macro_rules | `(tactic| walk_at "call ref") => `(tactic| (k_here; (with_reducible show wpAny _ _ (call (Value.ref 64) _ _) _ _ _); refine' Mine.use_bool (f := 64) ?c (Mine.ct_ne _ _ _ _ _) ?F ?X ?N ?T ?P ?A ?U ?_; (case c => (refine' Mine.calls_of rfl ?e1; (case e1 => exact rfl))); (case F => k_asm); (case X => k_asm); (case N => k_asm); (case T => k_asm); (case P => exact ⟨by walk_at "m_cell", by walk_at "m_cell"⟩); (case A => walk_at "m_room"); (case U => walk_at "m_units"); k_whole; intro h' tk'' F' N'; (try dsimp only [PySem.W.CmpBack]); (try k_sweep); (try dsimp only)))
local macro_rules | `(tactic| walk_at "call ref") => `(tactic| (k_here; (with_reducible show wpAny _ _ (call (Value.ref 236) _ _) _ _ _); refine' Mine.use_int (f := 236) ?c (Mine.ct_level _ _ _ _ ?v0) ?F ?X ?N ?T ?P ?A ?U ?_; (case c => (refine' Mine.calls_of rfl ?e1; (case e1 => exact rfl))); (case F => k_asm); (case X => k_asm); (case N => k_asm); (case T => k_asm); (case P => walk_at "m_cell"); (case v0 => first | assumption | omega); (case A => walk_at "m_room"); (case U => walk_at "m_units"); k_whole; intro tk' h' tk'' F' N'; (try k_sweep); (try dsimp only)))
local macro_rules | `(tactic| walk_at "call ref") => `(tactic| (k_here; (with_reducible show wpAny _ _ (call (Value.ref 173) _ _) _ _ _); refine' Mine.use_bool (f := 173) ?c (Mine.ct_contains _ _ _ _ _ ?v0 ?v1) ?F ?X ?N ?T ?P ?A ?U ?_; (case c => (refine' Mine.calls_of rfl ?e1; (case e1 => exact rfl))); (case F => k_asm); (case X => k_asm); (case N => k_asm); (case T => k_asm); (case P => exact ⟨by walk_at "m_cell", by walk_at "m_cell"⟩); (case v0 => first | assumption | omega); (case v1 => first | assumption | omega); (case A => walk_at "m_room"); (case U => walk_at "m_units"); k_whole; intro h' tk'' F' N'; (try dsimp only [PySem.W.CmpBack]); (try k_sweep); (try dsimp only)))
local macro_rules | `(tactic| walk_at "call ref") => `(tactic| (k_here; (with_reducible show wpAny _ _ (call (Value.ref 180) _ _) _ _ _); refine' Mine.use_bool (f := 180) ?c (Mine.ct_intersects _ _ _ _ _ ?v0 ?v1) ?F ?X ?N ?T ?P ?A ?U ?_; (case c => (refine' Mine.calls_of rfl ?e1; (case e1 => exact rfl))); (case F => k_asm); (case X => k_asm); (case N => k_asm); (case T => k_asm); (case P => exact ⟨by walk_at "m_cell", by walk_at "m_cell"⟩); (case v0 => first | assumption | omega); (case v1 => first | assumption | omega); (case A => walk_at "m_room"); (case U => walk_at "m_units"); k_whole; intro h' tk'' F' N'; (try dsimp only [PySem.W.CmpBack]); (try k_sweep); (try dsimp only)))
local macro_rules | `(tactic| walk_at "call ref") => `(tactic| (k_here; (with_reducible show wpAny _ _ (call (Value.ref 159) _ _) _ _ _); refine' Mine.use_cell (f := 159) ?c (Mine.ct_parent1 _ _ _ _ _ _ ?v0 ?v1 ?v2 ?v3 ?v4 ?v5 ?v6) ?F ?X ?N ?T ?P ?A ?U ?_; (case c => (refine' Mine.calls_of rfl ?e1; (case e1 => exact rfl))); (case F => k_asm); (case X => k_asm); (case N => k_asm); (case T => k_asm); (case P => walk_at "m_cell"); (case v0 => first | assumption | omega); (case v1 => first | assumption | omega); (case v2 => first | assumption | omega); (case v3 => first | assumption | omega); (case v4 => first | assumption | omega); (case v5 => first | assumption | omega); (case v6 => first | assumption | omega); (case A => walk_at "m_room"); (case U => walk_at "m_units"); k_whole; intro y' dy' hs' tk1' tn' h' tk'' F' N' O'; (try k_sweep); (try dsimp only)))
local macro_rules | `(tactic| k_ne) => `(tactic| first | ((refine' Mine.off_a ?o ?m); (case o => with_reducible assumption); (case m => k_mem)) | ((refine' Mine.off_b ?o ?m); (case o => with_reducible assumption); (case m => k_mem)))
local macro_rules | `(tactic| walk_at "call ref") => `(tactic| (k_here; (with_reducible show wpAny _ _ (call (Value.ref 436) _ _) _ _ _); refine' Mine.use_int (f := 436) ?c (Mine.ct_law_id _ _ _ _ _ ?v0 ?v1 ?v2 ?v3) ?F ?X ?N ?T ?P ?A ?U ?_; (case c => (refine' Mine.calls_of rfl ?e1; (case e1 => exact rfl))); (case F => k_asm); (case X => k_asm); (case N => k_asm); (case T => k_asm); (case P => trivial); (case v0 => first | assumption | omega); (case v1 => first | assumption | omega); (case v2 => first | assumption | omega); (case v3 => first | assumption | omega); (case A => walk_at "m_room"); (case U => walk_at "m_units"); k_whole; intro tk' h' tk'' F' N'; (try k_sweep); (try dsimp only)))
local macro_rules | `(tactic| walk_at "execs cons") => `(tactic| (k_here; refine wpAny_execs_cons ?_))
local macro_rules | `(tactic| walk_at "execs nil") => `(tactic| (k_here; refine wpAny_execs_nil ?_))
namespace Mine
open PySem.W
def clsBody : Stmt → List Stmt
  | .ClassDef _ _ _ b _ _ _ _ _ _ _ => b
  | _ => []
def chSt : Stmt := (clsBody (PySem.Challenge.pw_eq0043_01.main.body.getD 2 default)).getD 41 default
def chB : List Stmt := bodyOf chSt
def chSc : Scope := scopeOf chSt
def cs (i : Nat) : Stmt := chB.getD i default
def whB : Stmt → List Stmt
  | .While _ b _ _ => b
  | _ => []
def whT : Stmt → Expr
  | .While t _ _ _ => t
  | _ => default
def ws (i : Nat) : Stmt := (whB (cs 2)).getD i default
def yE : Stmt → Expr
  | .Expr (.Yield (some e) _) _ => e
  | _ => default
theorem chB_eq : chB = [cs 0, cs 1, cs 2] := by rfl
def chEnv (L : Addr) (cd : Value) : Env := envOf (PySem.Str.ofString "CellId.children") chSc L 271 cd
abbrev mC (x D : Addr) (c e : Option Value) : Str → Option Value := fun y =>
  if y = PySem.Str.ofString "end" then e else if y = PySem.Str.ofString "cell_id" then c else if y = PySem.Str.ofString "args" then some (.ref D) else if y = PySem.Str.ofString "self" then some (.ref x) else none
theorem MethStar {M : Model} {A : Around} {s : Shared} {Q : Value → Shared → Prop} {E : Value → Shared → Prop} {env : Env} {o : Expr} {name : Str} {apos pos : Pos} {args : List Expr}
    (h : wpAny M A (eval o env) (fun ov s₁ => wpAny M A (getAttr ov name true) (fun f s₂ => wpAny M A (callWith pos f [] (backTo pos (starEach args env)) []) Q E s₂) E s₁) E s)
    (he : eval (.Call (.Attribute o name apos) args [] pos) env = (do
      let ov ← eval o env
      standAt apos.atName
      let (f, first) ← holding [ov] (do pure (← getAttr ov name true, []))
      callWith pos f first (backTo pos (starEach args env)) []) := by rfl) :
    wpAny M A (eval (.Call (.Attribute o name apos) args [] pos) env) Q E s := by
  rw [he]
  refine wpAny_bind (wpAny_mono h (fun ov s₁ h₁ => wpAny_bind (wpAny_standAt (wpAny_bind (wpAny_holding (wpAny_bind (wpAny_mono h₁ (fun f s₂ h₂ => wpAny_pure h₂) fun _ _ x => x)))))) fun _ _ x => x)
theorem callWith_SM {M : Model} {K : Frag} {A : Around} {s : Shared} {Q : Value → Shared → Prop} {E : Value → Shared → Prop} {env : Env} {h₀ : Heap} {L : Addr} {news : List (Addr × Obj)} {q g : Addr} {self : Value} {e : Expr} {pos p : Pos} {first : List Value} (_X : K.In h₀) (_N : News h₀ L s.heap news) (_q : (q, methodObj (.ref g) self) ∈ news) (hf : fnIn K g = true)
    (h : wpAny M A (eval e env) (fun v s₁ => StarOf M A E v (fun vs s₂ => MethP K q g self s₂.heap ∧ wpAny M A (call (.ref q) (first ++ vs)) Q E s₂) s₁) E s)
    (he : starEach [.Starred e p] env = [(true, eval e env)] := by rfl) :
    wpAny M A (callWith pos (.ref q) first (backTo pos (starEach [.Starred e p] env)) []) Q E s := by
  rw [he]
  exact ks_call rfl (keeps_M hf) (ks_lone h)
theorem Fr.eqm {h₀ h : Heap} {L : Addr} {m m' : Str → Option Value} (F : Fr h₀ L h m) (e : ∀ y, m y = m' y) : Fr h₀ L h m' := by
  have : m = m' := funext e
  subst this; exact F
theorem News.sub {h₀ h : Heap} {L : Addr} {n n' : List (Addr × Obj)} (N : News h₀ L h n) (hs : ∀ p ∈ n', p ∈ n) : News h₀ L h n' := fun p hp => N p (hs p hp)
theorem sub_cons {a : Addr × Obj} {l n : List (Addr × Obj)} (h : ∀ p ∈ l, p ∈ n) (ha : a ∈ n) : ∀ p ∈ a :: l, p ∈ n := fun p hp => by
  rcases List.mem_cons.mp hp with e | e
  · rw [e]; exact ha
  · exact h p e
theorem isTrue_is {w : World} {A : Around} {s : Shared} {Q : Bool → Shared → Prop} {E : Value → Shared → Prop} {e e' : PySem.Expr} {env : Env} (h : e = e') (q : wpAny (model PR w) A (isTrue e' env (eval e' env)) Q E s) : wpAny (model PR w) A (isTrue e env (eval e env)) Q E s := by subst h; exact q
theorem eval_is {w : World} {A : Around} {s : Shared} {Q : Value → Shared → Prop} {E : Value → Shared → Prop} {e e' : Expr} {env : Env} (h : e = e') (q : wpAny (model PR w) A (eval e' env) Q E s) : wpAny (model PR w) A (eval e env) Q E s := by subst h; exact q
end Mine
local macro_rules | `(tactic| walk_at "call ref") => `(tactic| (k_here; (with_reducible show wpAny _ _ (call (Value.ref _) _ _) _ _ _); refine' Mine.use_cell (f := 243) ?c (‹Mine.Ct _ _ 243 _ _ _›) ?F ?X ?N ?T ?P ?A ?U ?_; (case c => (refine' Mine.calls_meth' ?q2 ?N2 rfl ?e2; (case N2 => k_asm); (case q2 => k_mem); (case e2 => exact rfl))); (case F => k_asm); (case X => k_asm); (case N => k_asm); (case T => k_asm); (case P => walk_at "m_cell"); (case A => walk_at "m_room"); (case U => walk_at "m_units"); k_whole; intro y' dy' hs' tk1' tn' h' tk'' F' N' O'; (try dsimp only)))
local macro_rules | `(tactic| walk_at "call ref") => `(tactic| (k_here; (with_reducible show wpAny _ _ (call (Value.ref _) _ _) _ _ _); refine' Mine.use_cell (f := 250) ?c (‹Mine.Ct _ _ 250 _ _ _›) ?F ?X ?N ?T ?P ?A ?U ?_; (case c => (refine' Mine.calls_meth' ?q2 ?N2 rfl ?e2; (case N2 => k_asm); (case q2 => k_mem); (case e2 => exact rfl))); (case F => k_asm); (case X => k_asm); (case N => k_asm); (case T => k_asm); (case P => walk_at "m_cell"); (case A => walk_at "m_room"); (case U => walk_at "m_units"); k_whole; intro y' dy' hs' tk1' tn' h' tk'' F' N' O'; (try dsimp only)))
local macro_rules | `(tactic| walk_at "call ref") => `(tactic| (k_here; (with_reducible show wpAny _ _ (call (Value.ref 264) _ _) _ _ _); refine' Mine.use_cell (f := 264) ?c (‹Mine.Ct _ _ 264 _ _ _›) ?F ?X ?N ?T ?P ?A ?U ?_; (case c => (refine' Mine.calls_of rfl ?e1; (case e1 => exact rfl))); (case F => k_asm); (case X => k_asm); (case N => k_asm); (case T => k_asm); (case P => walk_at "m_cell"); (case A => walk_at "m_room"); (case U => walk_at "m_units"); k_whole; intro y' dy' hs' tk1' tn' h' tk'' F' N' O'; (try dsimp only)))
local macro_rules | `(tactic| walk_at "call ref") => `(tactic| (k_here; (with_reducible show wpAny _ _ (call (Value.ref 64) _ _) _ _ _); refine' Mine.use_bool (f := 64) ?c (Mine.ct_ne _ _ _ _ _) ?F ?X ?N ?T ?P ?A ?U ?_; (case c => (refine' Mine.calls_of rfl ?e1; (case e1 => exact rfl))); (case F => k_asm); (case X => k_asm); (case N => k_asm); (case T => k_asm); (case P => exact ⟨by walk_at "m_cell", by walk_at "m_cell"⟩); (case A => walk_at "m_room"); (case U => walk_at "m_units"); k_whole; intro h' tk'' F' N'; (try dsimp only [PySem.W.CmpBack]); (try dsimp only)))
local macro_rules | `(tactic| walk_at "eval Call Attribute") => `(tactic| (k_here; (with_reducible show wpAny _ _ (eval (Expr.Call (Expr.Attribute _ _ _) [Expr.Starred _ _] [] _) _) _ _ _); refine Mine.MethStar ?_; k_whole))
local macro_rules | `(tactic| walk_at "callWith ref") => `(tactic| (k_here; (with_reducible show wpAny _ _ (callWith _ (Value.ref _) _ (backTo _ (starEach [Expr.Starred _ _] _)) []) _ _ _); (refine' Mine.callWith_SM ?k0 ?k1 ?k2 ?k3 ?_; (case k0 => k_asm); (case k1 => k_asm); (case k2 => k_mem); (case k3 => k_is); k_whole)))
local macro_rules | `(tactic| walk_at "execs nil") => `(tactic| (k_here; refine wpAny_execs_nil ?_; k_whole))
local macro_rules | `(tactic| walk_at "execs cons") => `(tactic| (k_here; refine wpAny_execs_cons ?_; k_whole))
local macro_rules | `(tactic| walk_at "m_sub") => `(tactic| ((repeat (refine Mine.sub_cons ?_ (by first | exact List.Mem.head _ | k_mem))); intro p hp; repeat (first | exact hp | refine List.Mem.tail _ ?_)))
local macro_rules | `(tactic| walk_at "mc_eq") => `(tactic| (intro y; (try dsimp only [Mine.mC]); (repeat' split) <;> first | rfl | (simp_all; done) | (simp_all; exact absurd (by assumption) (by decide : ¬ (PySem.Str.ofString "end" = PySem.Str.ofString "cell_id")))))
namespace Mine
open PySem.W
section
variable {w : World} {A : Around} {s : Shared} {g : Heap} {mg mb : Str → Option Value} {p : Program} {loose : List Str} {E : Value → Shared → Prop} {G D x dx : Addr} {hs : Int} {tk tn : Tok} {n r : Int} {c e : Option Value} {cd : Value} {rest : List (Addr × Obj)}
theorem g0_0 {Q : Flow → Shared → Prop} (F : Fr g G s.heap (mC x D c e)) (N : News g G s.heap ((D, tupO []) :: (x, instObj 425 dx) :: (dx, cellD hs tk tn n) :: rest)) (X : (hd.heap_39 w.params).In g) (T : TopRead p loose mg mb g)
    (hA : A.depth + 20 < recursionLimit) (hu : A.units + 100 < cLine)
    (hb : Ct w 6 243 (.ref x :: []) (fun g h => IsCell g h x n) (fun h h' v => NewC h h' v r))
    (h : ∀ y dy hs' tk' tn' h' tk'', Fr g G h' (mC x D (some (.ref y)) e) → News g G h' ((y, instObj 425 dy) :: (dy, cellD hs' tk' tn' r) :: (D, tupO []) :: (x, instObj 425 dx) :: (dx, cellD hs tk tn n) :: rest) → (∀ q ∈ rest, q.1 ≠ y ∧ q.1 ≠ dy) → Q .next { s with heap := h', toks := tk'' }) :
    wpAny (model PR w) A (exec (cs 0) (chEnv G cd)) Q E s := by
  unfold chEnv
  refine exec_is (st' := ?stx) ?e ?_
  case e => conv => lhs; whnf
  k_steps
  rename_i yy dyy hss tkk tnn _ tk2 O2 h2 F2 N2
  exact h yy dyy hss tkk tnn h2 _ (Fr.eqm F2 (by walk_at "mc_eq")) (News.sub N2 (by walk_at "m_sub")) (fun q hq => O2 q (by repeat (first | exact hq | refine List.Mem.tail _ ?_)))
theorem g1_0 {Q : Flow → Shared → Prop} (F : Fr g G s.heap (mC x D c e)) (N : News g G s.heap ((D, tupO []) :: (x, instObj 425 dx) :: (dx, cellD hs tk tn n) :: rest)) (X : (hd.heap_39 w.params).In g) (T : TopRead p loose mg mb g)
    (hA : A.depth + 20 < recursionLimit) (hu : A.units + 100 < cLine)
    (hb : Ct w 6 250 (.ref x :: []) (fun g h => IsCell g h x n) (fun h h' v => NewC h h' v r))
    (h : ∀ y dy hs' tk' tn' h' tk'', Fr g G h' (mC x D c (some (.ref y))) → News g G h' ((y, instObj 425 dy) :: (dy, cellD hs' tk' tn' r) :: (D, tupO []) :: (x, instObj 425 dx) :: (dx, cellD hs tk tn n) :: rest) → (∀ q ∈ rest, q.1 ≠ y ∧ q.1 ≠ dy) → Q .next { s with heap := h', toks := tk'' }) :
    wpAny (model PR w) A (exec (cs 1) (chEnv G cd)) Q E s := by
  unfold chEnv
  refine exec_is (st' := ?stx) ?e ?_
  case e => conv => lhs; whnf
  k_steps
  rename_i yy dyy hss tkk tnn _ tk2 O2 h2 F2 N2
  exact h yy dyy hss tkk tnn h2 _ (Fr.eqm F2 (by walk_at "mc_eq")) (News.sub N2 (by walk_at "m_sub")) (fun q hq => O2 q (by repeat (first | exact hq | refine List.Mem.tail _ ?_)))
theorem g0_1 {l : Int} {t : Tok} {Q : Flow → Shared → Prop} (F : Fr g G s.heap (mC x D c e)) (N : News g G s.heap ((D, tupO [.int l t]) :: (x, instObj 425 dx) :: (dx, cellD hs tk tn n) :: rest)) (X : (hd.heap_39 w.params).In g) (T : TopRead p loose mg mb g)
    (hA : A.depth + 20 < recursionLimit) (hu : A.units + 100 < cLine)
    (hb : Ct w 6 243 (.ref x :: [.int l t]) (fun g h => IsCell g h x n) (fun h h' v => NewC h h' v r))
    (h : ∀ y dy hs' tk' tn' h' tk'', Fr g G h' (mC x D (some (.ref y)) e) → News g G h' ((y, instObj 425 dy) :: (dy, cellD hs' tk' tn' r) :: (D, tupO [.int l t]) :: (x, instObj 425 dx) :: (dx, cellD hs tk tn n) :: rest) → (∀ q ∈ rest, q.1 ≠ y ∧ q.1 ≠ dy) → Q .next { s with heap := h', toks := tk'' }) :
    wpAny (model PR w) A (exec (cs 0) (chEnv G cd)) Q E s := by
  unfold chEnv
  refine exec_is (st' := ?stx) ?e ?_
  case e => conv => lhs; whnf
  k_steps
  rename_i yy dyy hss tkk tnn _ tk2 O2 h2 F2 N2
  exact h yy dyy hss tkk tnn h2 _ (Fr.eqm F2 (by walk_at "mc_eq")) (News.sub N2 (by walk_at "m_sub")) (fun q hq => O2 q (by repeat (first | exact hq | refine List.Mem.tail _ ?_)))
theorem g1_1 {l : Int} {t : Tok} {Q : Flow → Shared → Prop} (F : Fr g G s.heap (mC x D c e)) (N : News g G s.heap ((D, tupO [.int l t]) :: (x, instObj 425 dx) :: (dx, cellD hs tk tn n) :: rest)) (X : (hd.heap_39 w.params).In g) (T : TopRead p loose mg mb g)
    (hA : A.depth + 20 < recursionLimit) (hu : A.units + 100 < cLine)
    (hb : Ct w 6 250 (.ref x :: [.int l t]) (fun g h => IsCell g h x n) (fun h h' v => NewC h h' v r))
    (h : ∀ y dy hs' tk' tn' h' tk'', Fr g G h' (mC x D c (some (.ref y))) → News g G h' ((y, instObj 425 dy) :: (dy, cellD hs' tk' tn' r) :: (D, tupO [.int l t]) :: (x, instObj 425 dx) :: (dx, cellD hs tk tn n) :: rest) → (∀ q ∈ rest, q.1 ≠ y ∧ q.1 ≠ dy) → Q .next { s with heap := h', toks := tk'' }) :
    wpAny (model PR w) A (exec (cs 1) (chEnv G cd)) Q E s := by
  unfold chEnv
  refine exec_is (st' := ?stx) ?e ?_
  case e => conv => lhs; whnf
  k_steps
  rename_i yy dyy hss tkk tnn _ tk2 O2 h2 F2 N2
  exact h yy dyy hss tkk tnn h2 _ (Fr.eqm F2 (by walk_at "mc_eq")) (News.sub N2 (by walk_at "m_sub")) (fun q hq => O2 q (by repeat (first | exact hq | refine List.Mem.tail _ ?_)))
/-- the loop's test -/
theorem gT {a b : Addr} {da db : Addr} {ha hb' : Int} {ta ta' tb tb' : Tok} {na nb : Int} {Q : Bool → Shared → Prop} (F : Fr g G s.heap (mC x D (some (.ref a)) (some (.ref b)))) (N : News g G s.heap ((a, instObj 425 da) :: (da, cellD ha ta ta' na) :: (b, instObj 425 db) :: (db, cellD hb' tb tb' nb) :: rest)) (X : (hd.heap_39 w.params).In g) (T : TopRead p loose mg mb g)
    (hA : A.depth + 20 < recursionLimit) (hu : A.units + 100 < cLine)
    (h : ∀ h' tk'', Fr g G h' (mC x D (some (.ref a)) (some (.ref b))) → News g G h' ((a, instObj 425 da) :: (da, cellD ha ta ta' na) :: (b, instObj 425 db) :: (db, cellD hb' tb tb' nb) :: rest) → Q (!decide (na = nb)) { s with heap := h', toks := tk'' }) :
    wpAny (model PR w) A (isTrue (whT (cs 2)) (chEnv G cd) (eval (whT (cs 2)) (chEnv G cd))) Q E s := by
  unfold chEnv
  refine isTrue_is (e' := ?stx) ?e ?_
  case e => conv => lhs; whnf
  k_steps
  exact h _ _ (by k_asm) (by k_asm)
theorem gY {a : Addr} {c e : Option Value} {Q : Value → Shared → Prop} (F : Fr g G s.heap (mC x D (some (.ref a)) e)) (h : Q (.ref a) s) : wpAny (model PR w) A (eval (yE (ws 0)) (chEnv G cd)) Q E s := by
  unfold chEnv
  refine eval_is (e' := ?stx) ?e ?_
  case e => conv => lhs; whnf
  k_steps
  exact h
theorem gN {a : Addr} {da : Addr} {ha : Int} {ta ta' : Tok} {na : Int} {Q : Flow → Shared → Prop} (F : Fr g G s.heap (mC x D (some (.ref a)) e)) (N : News g G s.heap ((a, instObj 425 da) :: (da, cellD ha ta ta' na) :: rest)) (X : (hd.heap_39 w.params).In g) (T : TopRead p loose mg mb g)
    (hA : A.depth + 20 < recursionLimit) (hu : A.units + 100 < cLine)
    (hb : Ct w 4 264 (.ref a :: []) (fun g h => IsCell g h a na) (fun h h' v => NewC h h' v r))
    (h : ∀ y dy hs' tk' tn' h' tk'', Fr g G h' (mC x D (some (.ref y)) e) → News g G h' ((y, instObj 425 dy) :: (dy, cellD hs' tk' tn' r) :: (a, instObj 425 da) :: (da, cellD ha ta ta' na) :: rest) → (∀ q ∈ rest, q.1 ≠ y ∧ q.1 ≠ dy) → Q .next { s with heap := h', toks := tk'' }) :
    wpAny (model PR w) A (exec (ws 1) (chEnv G cd)) Q E s := by
  unfold chEnv
  refine exec_is (st' := ?stx) ?e ?_
  case e => conv => lhs; whnf
  k_steps
  rename_i yy dyy hss tkk tnn _ tk2 O2 h2 F2 N2
  exact h yy dyy hss tkk tnn h2 _ (Fr.eqm F2 (by walk_at "mc_eq")) (News.sub N2 (by walk_at "m_sub")) (fun q hq => O2 q (by repeat (first | exact hq | refine List.Mem.tail _ ?_)))
end
end Mine
end
-- part GN2
namespace Mine
open PySem.W
def restOf (g : Heap) (G : Addr) (h : Heap) : List (Addr × Obj) :=
  (List.range h.objs.size).filterMap fun b => if b = G then none else match g.get? b, h.get? b with | none, some o => some (b, o) | _, _ => none
theorem mem_restOf {g h : Heap} {G b : Addr} {o : Obj} (hb : b ≠ G) (hg : g.get? b = none) (hh : h.get? b = some o) : (b, o) ∈ restOf g G h := by
  refine List.mem_filterMap.mpr ⟨b, List.mem_range.mpr (Heap.lt_size hh), ?_⟩
  rw [if_neg hb, hg, hh]
theorem news_restOf {g h : Heap} {G : Addr} : News g G h (restOf g G h) := by
  rintro ⟨b, o⟩ hp
  obtain ⟨c, hc, e⟩ := List.mem_filterMap.mp hp
  by_cases hcG : c = G
  · rw [if_pos hcG] at e; cases e
  · rw [if_neg hcG] at e
    cases hg : g.get? c with
    | some o' => rw [hg] at e; cases e
    | none =>
      cases hh : h.get? c with
      | none => rw [hg, hh] at e; cases e
      | some o' => rw [hg, hh] at e; cases e; exact ⟨hh, hcG, hg⟩
theorem kept_of {g h h' : Heap} {G : Addr} {m m' : Str → Option Value} (F : Fr g G h m) (F' : Fr g G h' m') (N : News g G h' (restOf g G h)) : ∀ b o, b ≠ G → b ∉ ([] : List Addr) → h.get? b = some o → h'.get? b = some o := fun b o hb _ e => by
  cases q : g.get? b with
  | some o' =>
    have e1 := F.keep b o' q
    rw [e] at e1; cases e1
    exact F'.keep b o q
  | none => exact (N _ (mem_restOf hb q e)).1

theorem news_app {g h : Heap} {G : Addr} {l : List (Addr × Obj)} (N : News g G h l) : News g G h (l ++ restOf g G h) := fun q hq => by
  rcases List.mem_append.mp hq with hq | hq
  · exact N q hq
  · exact news_restOf q hq
/-- what is handed out, and what the other side keeps -/
def chProto (g : Heap) (G : Addr) (wr : List Addr) (xs : Nat → Int) (cnt : Nat) : Protocol := fun m s₀ v s kap =>
  (∃ y dy hs t1 t2, v = .ref y ∧ s.heap.get? y = some (instObj 425 dy) ∧ s.heap.get? dy = some (cellD hs t1 t2 (xs (cnt - 1 - m))) ∧ g.get? y = none ∧ g.get? dy = none ∧ y ≠ G ∧ dy ≠ G ∧ y ∉ wr ∧ dy ∉ wr ∧ ∃ o, s.heap.get? G = some o) ∧ GenSince G [] s₀ s ∧
    ∀ s'' : Shared, (∀ b o, b ∉ wr → s.heap.get? b = some o → s''.heap.get? b = some o) → (∀ b ∈ wr, ∃ o, s''.heap.get? b = some o) → kap (.send .none) s''
abbrev chEnd (G : Addr) : GenEnd := fun n s₀ r s₁ => r = .ok (.ret .none) ∧ (n = 0 ∧ GenSince G [] s₀ s₁)
/-- the generator's own things -/
structure GOwn (g : Heap) (G : Addr) (wr : List Addr) (x D : Addr) (oD : Obj) (dx : Addr) (hs : Int) (tk tn : Tok) (n : Int) : Prop where
  wg : ∀ b ∈ wr, g.get? b = none
  wG : G ∉ wr
  wD : D ∉ wr
  wx : x ∉ wr
  wdx : dx ∉ wr

theorem notin_wr {g h : Heap} {G : Addr} {wr : List Addr} {y dy : Addr} (wg : ∀ b ∈ wr, g.get? b = none) (wG : G ∉ wr) (wh : ∀ b ∈ wr, ∃ o, h.get? b = some o) (O : ∀ q ∈ restOf g G h, q.1 ≠ y ∧ q.1 ≠ dy) : y ∉ wr ∧ dy ∉ wr := by
  constructor
  · intro hm
    obtain ⟨o, ho⟩ := wh _ hm
    exact (O _ (mem_restOf (fun e => wG (e ▸ hm)) (wg _ hm) ho)).1 rfl
  · intro hm
    obtain ⟨o, ho⟩ := wh _ hm
    exact (O _ (mem_restOf (fun e => wG (e ▸ hm)) (wg _ hm) ho)).2 rfl

theorem whS_eq : cs 2 = .While (whT (cs 2)) [ws 0, ws 1] [] (cs 2).pos := by rfl
theorem ws0_eq : ws 0 = .Expr (.Yield (some (yE (ws 0))) ⟨178, 12, 178, 25⟩) (ws 0).pos := by rfl

section
variable {w : World} {A : Around} {g : Heap} {mg mb : Str → Option Value} {p : Program} {loose : List Str} {G D x dx : Addr} {oD : Obj} {hs : Int} {tk tn : Tok} {n : Int} {cd : Value} {wr : List Addr} {xs : Nat → Int} {cnt : Nat}

theorem seg_wloop (X : (hd.heap_39 w.params).In g) (T : TopRead p loose mg mb g) (hA : A.depth + 30 < recursionLimit) (hu : A.units + 200 < cLine)
    (W : GOwn g G wr x D oD dx hs tk tn n) (hne : ∀ i, i < cnt → xs i ≠ xs cnt) (hx : ∀ i, i < cnt → ∀ a, Ct w 4 264 [.ref a] (fun g h => IsCell g h a (xs i)) (fun h h' v => NewC h h' v (xs (i + 1))))
    {k : Result → Sem Fin} {hh : Option Value} {gg : Bool} {ll : List Value} {c₁ : Code} {p₁ : Pos} {kp : List (Str × Addr)}
    {fs : List Frame} (hfs : fs = [.ret k none false [] c₁ p₁ []])
    (hw : c₁.weight ≤ 5) (hcu : c₁.cUnits ≤ 20)
    (exit : ∀ s₀ s', GenSince G [] s₀ s' → Seg (model PR w) A (chEnd G) (chProto g G wr xs cnt) 0 s₀ c₁ (k (.ok .next)) [] s') :
    ∀ (m i : Nat) (s₀ s : Shared) (a da b db : Addr) (ha hb : Int) (ta ta' tb tb' : Tok), i + m = cnt → Fr g G s.heap (mC x D (some (.ref a)) (some (.ref b))) →
      News g G s.heap [(a, instObj 425 da), (da, cellD ha ta ta' (xs i)), (b, instObj 425 db), (db, cellD hb tb tb' (xs cnt)), (D, oD), (x, instObj 425 dx), (dx, cellD hs tk tn n)] →
      (a ∉ wr ∧ da ∉ wr) → (b ∉ wr ∧ db ∉ wr) → (∀ b ∈ wr, ∃ o, s.heap.get? b = some o) → GenSince G [] s₀ s →
      Seg (model PR w) A (chEnd G) (chProto g G wr xs cnt) m s₀ (.whileLoop (whT (cs 2)) [ws 0, ws 1] [] (chEnv G cd)) ((model PR w).den (.whileLoop (whT (cs 2)) [ws 0, ws 1] [] (chEnv G cd))) fs s := by
  have hAo : (A.over (.whileLoop (whT (cs 2)) [ws 0, ws 1] [] (chEnv G cd)) fs).depth + 20 < recursionLimit := by
    subst hfs
    have e : (A.over (.whileLoop (whT (cs 2)) [ws 0, ws 1] [] (chEnv G cd)) [.ret k none false [] c₁ p₁ []]).depth = A.depth + (c₁.weight + 0) + 0 := rfl
    rw [e]; omega
  have huo : (A.over (.whileLoop (whT (cs 2)) [ws 0, ws 1] [] (chEnv G cd)) fs).units + 100 < cLine := by
    subst hfs
    have e : (A.over (.whileLoop (whT (cs 2)) [ws 0, ws 1] [] (chEnv G cd)) [.ret k none false [] c₁ p₁ []]).units = A.units + (c₁.cUnits + 0) + 0 := rfl
    rw [e]; omega
  intro m
  induction m with
  | zero =>
    intro i s₀ s a da b db ha hb ta ta' tb tb' hi F N ua ub wh S
    have hi' : i = cnt := by omega
    subst hi'
    refine seg_whileLoop (gT F (news_app N) (rest := [(D, oD), (x, instObj 425 dx), (dx, cellD hs tk tn n)] ++ restOf g G s.heap) X T hAo huo fun h' tk' F' N' => ?_)
    · simp only [decide_true, Bool.not_true, Bool.false_eq_true, if_false]
      refine seg_execs_nil ?_
      subst hfs
      exact seg_leaf (.ok .next) (exit _ _ (S.step (kept_of F F' (News.sub N' fun q hq => by simp [hq]))))
  | succ m ih =>
    intro i s₀ s a da b db ha hb ta ta' tb tb' hi F N ua ub wh S
    have hlt : i < cnt := by omega
    refine seg_whileLoop (gT F (news_app N) (rest := [(D, oD), (x, instObj 425 dx), (dx, cellD hs tk tn n)] ++ restOf g G s.heap) X T hAo huo fun h' tk' F' N' => ?_)
    · have e : (!decide (xs i = xs cnt)) = true := by simp [hne i hlt]
      rw [e, if_pos rfl]
      have S1 : GenSince G [] s₀ { s with heap := h', toks := tk' } := S.step (kept_of F F' (News.sub N' fun q hq => by simp [hq]))
      have N1 : ∀ q ∈ [(a, instObj 425 da), (da, cellD ha ta ta' (xs i)), (b, instObj 425 db), (db, cellD hb tb tb' (xs cnt)), (D, oD), (x, instObj 425 dx), (dx, cellD hs tk tn n)], h'.get? q.1 = some q.2 ∧ q.1 ≠ G ∧ g.get? q.1 = none := fun q hq => N' q (by
        show q ∈ [(a, instObj 425 da), (da, cellD ha ta ta' (xs i)), (b, instObj 425 db), (db, cellD hb tb tb' (xs cnt)), (D, oD), (x, instObj 425 dx), (dx, cellD hs tk tn n)] ++ restOf g G s.heap
        exact List.mem_append_left _ hq)
      refine seg_execs_cons ?_
      show Seg _ _ _ _ _ _ _ ((exec (.Expr (.Yield (some (yE (ws 0))) ⟨178, 12, 178, 25⟩) (ws 0).pos) _).wrap _ _ _ _) _ _
      have Na := N1 (a, instObj 425 da) (by simp)
      have Nd := N1 (da, cellD ha ta ta' (xs i)) (by simp)
      refine seg_Expr_Yield (by subst hfs; rfl) rfl (by subst hfs; rfl) (gY (c := none) F' fun kap hk => ⟨⟨a, da, ha, ta, ta', rfl, Na.1, ?_, Na.2.2, Nd.2.2, Na.2.1, Nd.2.1, ua.1, ua.2, let ⟨oG, _, _, hG, _⟩ := F'.ns; ⟨oG, hG⟩⟩, S1, fun s'' kp wx => hk .none s'' ?_⟩)
      · have e2 : cnt - 1 - m = i := by omega
        rw [e2]; exact Nd.1
      · show Seg _ A _ _ m s'' _ ((execs [ws 1] (chEnv G cd)).wrap _ _ _ _) fs s''
        refine seg_execs_cons (seg_wrap ?_)
        have keep : ∀ q ∈ [(a, instObj 425 da), (da, cellD ha ta ta' (xs i)), (b, instObj 425 db), (db, cellD hb tb tb' (xs cnt)), (D, oD), (x, instObj 425 dx), (dx, cellD hs tk tn n)], s''.heap.get? q.1 = some q.2 ∧ q.1 ≠ G ∧ g.get? q.1 = none := fun q hq => by
          refine ⟨kp _ _ ?_ (N1 q hq).1, (N1 q hq).2⟩
          simp only [List.mem_cons, List.not_mem_nil, or_false] at hq
          rcases hq with rfl | rfl | rfl | rfl | rfl | rfl | rfl
          · exact ua.1
          · exact ua.2
          · exact ub.1
          · exact ub.2
          · exact W.wD
          · exact W.wx
          · exact W.wdx
        have F2 : Fr g G s''.heap (mC x D (some (.ref a)) (some (.ref b))) := ⟨F'.ns.at' fun o e => kp _ _ W.wG e, fun b o e => kp _ _ (fun hm => by rw [W.wg _ hm] at e; cases e) (F'.keep _ _ e), F'.above⟩
        refine gN F2 (news_app keep) (rest := [(b, instObj 425 db), (db, cellD hb tb tb' (xs cnt)), (D, oD), (x, instObj 425 dx), (dx, cellD hs tk tn n)] ++ restOf g G s''.heap) X T hAo huo (hx i hlt a) fun y dy hs' tk1 tn1 h2 tk2 F3 N3 O3 => ?_
        · show Seg _ A _ _ m s'' _ ((execs [] (chEnv G cd)).wrap _ _ _ _) fs _
          refine seg_execs_nil (seg_again rfl ?_)
          have k2 := kept_of F2 F3 (News.sub N3 fun q hq => by simp [hq])
          have nw := notin_wr W.wg W.wG wx fun q hq => O3 q (List.mem_append_right _ hq)
          refine ih (i + 1) s'' _ y dy b db hs' hb tk1 tn1 tb tb' (by omega) F3 (News.sub N3 fun q hq => ?_) nw ub (fun c hc => ?_) ((GenSince.refl _ _ _).step k2)
          · simp only [List.mem_cons, List.not_mem_nil, or_false] at hq
            rcases hq with rfl | rfl | rfl | rfl | rfl | rfl | rfl <;> simp
          · obtain ⟨o, ho⟩ := wx c hc
            exact ⟨o, k2 _ _ (fun e => W.wG (e ▸ hc)) (by simp) ho⟩
end
end Mine
-- part GN3
namespace Mine
open PySem.W
section
variable {w : World} {A : Around} {g : Heap} {mg mb : Str → Option Value} {p : Program} {loose : List Str} {G D x dx : Addr} {hs : Int} {tk tn : Tok} {n : Int} {cd : Value} {wr : List Addr} {xs : Nat → Int} {cnt : Nat}
theorem seg_ch0 (X : (hd.heap_39 w.params).In g) (T : TopRead p loose mg mb g) (hA : A.depth + 40 < recursionLimit) (hu : A.units + 250 < cLine)
    (W : GOwn g G wr x D (tupO []) dx hs tk tn n) (hne : ∀ i, i < cnt → xs i ≠ xs cnt) (hx : ∀ i, i < cnt → ∀ a, Ct w 4 264 [.ref a] (fun g h => IsCell g h a (xs i)) (fun h h' v => NewC h h' v (xs (i + 1))))
    (hb : Ct w 6 243 (.ref x :: []) (fun g h => IsCell g h x n) (fun h h' v => NewC h h' v (xs 0))) (he : Ct w 6 250 (.ref x :: []) (fun g h => IsCell g h x n) (fun h h' v => NewC h h' v (xs cnt)))
    (s : Shared) (F : Fr g G s.heap (mC x D none none)) (N : News g G s.heap [(D, tupO []), (x, instObj 425 dx), (dx, cellD hs tk tn n)]) (wh : ∀ b ∈ wr, ∃ o, s.heap.get? b = some o) :
    Seg (model PR w) A (chEnd G) (chProto g G wr xs cnt) cnt s (.func chB (chEnv G cd)) ((model PR w).den (.func chB (chEnv G cd))) [] s := by
  have hAo : (A.over (.func chB (chEnv G cd)) []).depth + 20 < recursionLimit := by
    have e : (A.over (.func chB (chEnv G cd)) []).depth = A.depth + 0 + (Code.func chB (chEnv G cd)).weight := rfl
    have e2 : (Code.func chB (chEnv G cd)).weight = 1 := rfl
    rw [e, e2]; omega
  have huo : (A.over (.func chB (chEnv G cd)) []).units + 100 < cLine := by
    have e : (A.over (.func chB (chEnv G cd)) []).units = A.units + 0 + (Code.func chB (chEnv G cd)).cUnits := rfl
    have e2 : (Code.func chB (chEnv G cd)).cUnits = 3 := rfl
    rw [e, e2]; omega
  refine seg_func ?_
  rw [chB_eq]
  refine seg_execs_cons (seg_wrap ?_)
  refine g0_0 F (news_app (l := [(D, tupO []), (x, instObj 425 dx), (dx, cellD hs tk tn n)]) N) X T hAo huo hb fun y dy hs' tk1 tn1 h1 tk2 F1 N1 O1 => ?_
  have k1 := kept_of F F1 (News.sub N1 fun q hq => by simp [hq])
  have nw1 := notin_wr W.wg W.wG wh O1
  have wh1 : ∀ b ∈ wr, ∃ o, h1.get? b = some o := fun b hb => by
    obtain ⟨o, ho⟩ := wh b hb
    exact ⟨o, k1 _ _ (fun e => W.wG (e ▸ hb)) (by simp) ho⟩
  show Seg _ A _ _ _ _ _ ((execs [cs 1, cs 2] (chEnv G cd)).wrap _ _ _ _) [] _
  refine seg_execs_cons (seg_wrap ?_)
  have N1' : News g G h1 ([(D, tupO []), (x, instObj 425 dx), (dx, cellD hs tk tn n)] ++ ([(y, instObj 425 dy), (dy, cellD hs' tk1 tn1 (xs 0))] ++ restOf g G h1)) := fun q hq => by
    rcases List.mem_append.mp hq with hq | hq
    · exact N1 q (by
        simp only [List.mem_cons, List.not_mem_nil, or_false] at hq
        rcases hq with rfl | rfl | rfl <;> simp)
    rcases List.mem_append.mp hq with hq | hq
    · exact N1 q (by
        simp only [List.mem_cons, List.not_mem_nil, or_false] at hq
        rcases hq with rfl | rfl <;> simp)
    · exact news_restOf q hq
  refine g1_0 F1 N1' X T hAo huo he fun y2 dy2 hs2 tk3 tn3 h2 tk4 F2 N2 O2 => ?_
  have k2 := kept_of F1 F2 (News.sub N2 fun q hq => by simp [hq])
  have nw2 := notin_wr W.wg W.wG wh1 fun q hq => O2 q (List.mem_append_right _ (List.mem_append_right _ hq))
  have wh2 : ∀ b ∈ wr, ∃ o, h2.get? b = some o := fun b hb => by
    obtain ⟨o, ho⟩ := wh1 b hb
    exact ⟨o, k2 _ _ (fun e => W.wG (e ▸ hb)) (by simp) ho⟩
  show Seg _ A _ _ _ _ _ ((execs [cs 2] (chEnv G cd)).wrap _ _ _ _) [] _
  refine seg_execs_cons ?_
  show Seg _ A _ _ _ _ _ ((exec (.While (whT (cs 2)) [ws 0, ws 1] [] (cs 2).pos) (chEnv G cd)).wrap _ _ _ _) [] _
  refine seg_While fun p₁ => ?_
  refine seg_wloop (dx := dx) (hs := hs) (tk := tk) (tn := tn) (n := n) (oD := tupO []) X T (by omega) (by omega) ⟨W.wg, W.wG, W.wD, W.wx, W.wdx⟩ hne hx (hh := none) (gg := false) (ll := []) (kp := []) rfl (by show 1 ≤ 5; decide) (by show 3 ≤ 20; decide)
    (fun s₀ s' S => seg_end (.ok (.ret .none)) ⟨rfl, rfl, S⟩) cnt 0 s _ y dy y2 dy2 hs' hs2 tk1 tn1 tk3 tn3 (by omega) F2 (News.sub N2 fun q hq => ?_) nw1 nw2 wh2 (((GenSince.refl G [] s).step k1).step k2)
  simp only [List.mem_cons, List.not_mem_nil, or_false] at hq
  rcases hq with rfl | rfl | rfl | rfl | rfl | rfl | rfl <;> simp
theorem seg_ch1 {l : Int} {t : Tok} (X : (hd.heap_39 w.params).In g) (T : TopRead p loose mg mb g) (hA : A.depth + 40 < recursionLimit) (hu : A.units + 250 < cLine)
    (W : GOwn g G wr x D (tupO [.int l t]) dx hs tk tn n) (hne : ∀ i, i < cnt → xs i ≠ xs cnt) (hx : ∀ i, i < cnt → ∀ a, Ct w 4 264 [.ref a] (fun g h => IsCell g h a (xs i)) (fun h h' v => NewC h h' v (xs (i + 1))))
    (hb : Ct w 6 243 (.ref x :: [.int l t]) (fun g h => IsCell g h x n) (fun h h' v => NewC h h' v (xs 0))) (he : Ct w 6 250 (.ref x :: [.int l t]) (fun g h => IsCell g h x n) (fun h h' v => NewC h h' v (xs cnt)))
    (s : Shared) (F : Fr g G s.heap (mC x D none none)) (N : News g G s.heap [(D, tupO [.int l t]), (x, instObj 425 dx), (dx, cellD hs tk tn n)]) (wh : ∀ b ∈ wr, ∃ o, s.heap.get? b = some o) :
    Seg (model PR w) A (chEnd G) (chProto g G wr xs cnt) cnt s (.func chB (chEnv G cd)) ((model PR w).den (.func chB (chEnv G cd))) [] s := by
  have hAo : (A.over (.func chB (chEnv G cd)) []).depth + 20 < recursionLimit := by
    have e : (A.over (.func chB (chEnv G cd)) []).depth = A.depth + 0 + (Code.func chB (chEnv G cd)).weight := rfl
    have e2 : (Code.func chB (chEnv G cd)).weight = 1 := rfl
    rw [e, e2]; omega
  have huo : (A.over (.func chB (chEnv G cd)) []).units + 100 < cLine := by
    have e : (A.over (.func chB (chEnv G cd)) []).units = A.units + 0 + (Code.func chB (chEnv G cd)).cUnits := rfl
    have e2 : (Code.func chB (chEnv G cd)).cUnits = 3 := rfl
    rw [e, e2]; omega
  refine seg_func ?_
  rw [chB_eq]
  refine seg_execs_cons (seg_wrap ?_)
  refine g0_1 F (news_app (l := [(D, tupO [.int l t]), (x, instObj 425 dx), (dx, cellD hs tk tn n)]) N) X T hAo huo hb fun y dy hs' tk1 tn1 h1 tk2 F1 N1 O1 => ?_
  have k1 := kept_of F F1 (News.sub N1 fun q hq => by simp [hq])
  have nw1 := notin_wr W.wg W.wG wh O1
  have wh1 : ∀ b ∈ wr, ∃ o, h1.get? b = some o := fun b hb => by
    obtain ⟨o, ho⟩ := wh b hb
    exact ⟨o, k1 _ _ (fun e => W.wG (e ▸ hb)) (by simp) ho⟩
  show Seg _ A _ _ _ _ _ ((execs [cs 1, cs 2] (chEnv G cd)).wrap _ _ _ _) [] _
  refine seg_execs_cons (seg_wrap ?_)
  have N1' : News g G h1 ([(D, tupO [.int l t]), (x, instObj 425 dx), (dx, cellD hs tk tn n)] ++ ([(y, instObj 425 dy), (dy, cellD hs' tk1 tn1 (xs 0))] ++ restOf g G h1)) := fun q hq => by
    rcases List.mem_append.mp hq with hq | hq
    · exact N1 q (by
        simp only [List.mem_cons, List.not_mem_nil, or_false] at hq
        rcases hq with rfl | rfl | rfl <;> simp)
    rcases List.mem_append.mp hq with hq | hq
    · exact N1 q (by
        simp only [List.mem_cons, List.not_mem_nil, or_false] at hq
        rcases hq with rfl | rfl <;> simp)
    · exact news_restOf q hq
  refine g1_1 F1 N1' X T hAo huo he fun y2 dy2 hs2 tk3 tn3 h2 tk4 F2 N2 O2 => ?_
  have k2 := kept_of F1 F2 (News.sub N2 fun q hq => by simp [hq])
  have nw2 := notin_wr W.wg W.wG wh1 fun q hq => O2 q (List.mem_append_right _ (List.mem_append_right _ hq))
  have wh2 : ∀ b ∈ wr, ∃ o, h2.get? b = some o := fun b hb => by
    obtain ⟨o, ho⟩ := wh1 b hb
    exact ⟨o, k2 _ _ (fun e => W.wG (e ▸ hb)) (by simp) ho⟩
  show Seg _ A _ _ _ _ _ ((execs [cs 2] (chEnv G cd)).wrap _ _ _ _) [] _
  refine seg_execs_cons ?_
  show Seg _ A _ _ _ _ _ ((exec (.While (whT (cs 2)) [ws 0, ws 1] [] (cs 2).pos) (chEnv G cd)).wrap _ _ _ _) [] _
  refine seg_While fun p₁ => ?_
  refine seg_wloop (dx := dx) (hs := hs) (tk := tk) (tn := tn) (n := n) (oD := tupO [.int l t]) X T (by omega) (by omega) ⟨W.wg, W.wG, W.wD, W.wx, W.wdx⟩ hne hx (hh := none) (gg := false) (ll := []) (kp := []) rfl (by show 1 ≤ 5; decide) (by show 3 ≤ 20; decide)
    (fun s₀ s' S => seg_end (.ok (.ret .none)) ⟨rfl, rfl, S⟩) cnt 0 s _ y dy y2 dy2 hs' hs2 tk1 tn1 tk3 tn3 (by omega) F2 (News.sub N2 fun q hq => ?_) nw1 nw2 wh2 (((GenSince.refl G [] s).step k1).step k2)
  simp only [List.mem_cons, List.not_mem_nil, or_false] at hq
  rcases hq with rfl | rfl | rfl | rfl | rfl | rfl | rfl <;> simp

/-- the generator a (the gi-th), j handed out -/
structure GAt (w : World) (A : Around) (g : Heap) (G : Addr) (wr : List Addr) (xs : Nat → Int) (cnt : Nat) (a : Addr) (gi j : Nat) (s : Shared) : Prop where
  ig : s.heap.IsGen a gi
  st : ∃ gs, s.gens[gi]? = some gs ∧ ∀ s'' : Shared, (∀ b o, b ∉ wr → s.heap.get? b = some o → s''.heap.get? b = some o) → (∀ b ∈ wr, ∃ o, s''.heap.get? b = some o) →
    gs.Goes (model PR w) A.in1 (chEnd G) (chProto g G wr xs cnt) (cnt - j) (.send .none) s''
theorem GAt.keeps {a : Addr} {gi j : Nat} {s : Shared} (Z : GAt w A g G wr xs cnt a gi j s) (aw : a ∉ wr) {h' : Heap} {tk' : Nat} (hk : ∀ b o, b ∉ wr → s.heap.get? b = some o → h'.get? b = some o) : GAt w A g G wr xs cnt a gi j { s with heap := h', toks := tk' } :=
  ⟨let ⟨o, nm, qn, ho, r⟩ := Z.ig; ⟨o, nm, qn, hk a o aw ho, r⟩, let ⟨gs, hg, hgo⟩ := Z.st; ⟨gs, hg, fun s'' k wx => hgo s'' (fun b o hb e => k b o hb (hk b o hb e)) wx⟩⟩

end
end Mine
-- part GZ
namespace Mine
open PySem.W
section
variable {prog : Program} {w : World} {A : Around} {E : Value → Shared → Prop} {s : Shared}
theorem nextOf_range {it : Addr} {x left step : Int} {Q : Value → Shared → Prop} (hit : IsRangeIter s.heap it x left step) (hleft : 0 < left)
    (hQ : ∀ h', IsRangeIter h' it (x + step) (left - 1) step → Heap.SameBut it s.heap h' → Q (.int x s.toks) { s with heap := h', toks := s.toks + 1 }) :
    wpAny (model prog w) A (Builtin.SmallTypes.nextOf (.ref it)) Q E s := by
  have hT : s.TypeIs (.ref it) "range_iterator" := ⟨_, hit, rfl⟩
  unfold Builtin.SmallTypes.nextOf
  refine wpAny_bind (wpAny_callSpecial?_slot (name := Str.ofString "__next__") hT F.slot_range_iterator_next
    (call_meets F.slot_range_iterator_next hT F.entry_range_iterator_next (F.args_range_iterator_next_1 _) (AutoRange.range_iterator___next___range_iterator_1 it x left step (by omega)) ⟨hit, ?_⟩))
  exact wpAny_pure (hQ _ (Heap.get?_update_self _ (Heap.get?_update_self _ hit rfl) rfl) ((Heap.SameBut.update ..).trans (Heap.SameBut.update ..)))

/-- a generator woken by nextOf -/
theorem nextOf_gen {a : Addr} {g n : Nat} {gs : GenState} {P : Nat → Shared → Shared → Prop} {Y : Protocol} {Q : Value → Shared → Prop} (hh : A.handled = none)
    (hl : s.heap.NoLimit) (hroom : A.depth < recursionLimit) (hg : s.heap.IsGen a g) (hgs : s.gens[g]? = some gs)
    (hgo : gs.Goes (model prog w) A.in1 (fun n s₀ r s₁ => r = .ok (.ret .none) ∧ P n s₀ s₁) Y n (.send .none) (s.setGen g .running))
    (hY : ∀ v s₁ gs', Y (n - 1) (s.setGen g .running) v s₁ (fun r' s'' => match n with
        | 0 => False
        | m + 1 => gs'.Goes (model prog w) A.in1 (fun n s₀ r s₁ => r = .ok (.ret .none) ∧ P n s₀ s₁) Y m r' s'') → Q v (s₁.setGen g gs'))
    (hP : ∀ s₁, P n (s.setGen g .running) s₁ → ∀ h' e, (∀ b o, s₁.heap.get? b = some o → h'.get? b = some o) → (∃ o, h'.get? e = some o ∧ o.cls = .type "StopIteration") → E (.ref e) { s₁.setGen g .finished with heap := h' }) :
    wpAny (model prog w) A (Builtin.SmallTypes.nextOf (.ref a)) Q E s := by
  unfold Builtin.SmallTypes.nextOf
  refine wpAny_bind (wpAny_callSpecial?_slot (name := Str.ofString "__next__") hg.typeIs slot_gen_next
    (wpAny_call_entry slot_gen_next hg.typeIs entry_gen_next ?_ (args_gen_next _)))
  show wpAny _ _ (Builtin.Generator.genWake (.ref a) (.send .none)) _ _ s
  unfold Builtin.Generator.genWake
  refine wpAny_bind (wpAny_holding (wpAny_genNumber hg (wpAny_bind (wpAny_genState hgs ?_))))
  cases gs with
  | running => exact hgo.elim
  | finished => exact hgo.elim
  | _ =>
    refine wpAny_bind (wpAny_roomToWake hl hroom ?_)
    show wpAny _ _ (.resume g (.send .none) [] _) _ _ s
    refine wpAny_resume hgs hgo (fun x s₁ hx => ?_) (fun v s₁ gs' hv => wpAny_pure ⟨v, rfl, wpAny_pure (hY v s₁ gs' hv)⟩)
    obtain ⟨rfl, hp⟩ := hx
    show wpAny _ _ (newExc (.type "StopIteration") [] >>= _) _ _ _
    refine wpAny_bind ?_
    simp only [newExc, newTuple]
    refine wpAny_bind (wpAny_newObj_type ?_ (by size_fits))
    refine wpAny_bind (m := firstArgMember _ _) (wpAny_of_eq (a := Value.none) (by first | rfl | (simp only [firstArgMember]; rfl)) ?_)
    refine wpAny_newObj_type ?_ (by size_fits)
    simp only [raiseNew]
    refine wpAny_bind (wpAny_bind (wpAny_handled ?_))
    rw [show A.in1.handled = none from hh]
    refine wpAny_throw ?_
    exact hP s₁ hp _ _ (fun b o hb => Heap.get?_push_of_some _ (Heap.get?_push_of_some _ hb)) ⟨_, Heap.get?_push_size _ rfl, rfl⟩
end

section
variable {w : World} {A : Around} {g : Heap} {G : Addr} {wr : List Addr} {xs : Nat → Int} {cnt : Nat} {E : Value → Shared → Prop} {a : Addr} {gi j : Nat} {s : Shared}
/-- what a turn of the generator leaves -/
structure Turned (g : Heap) (G : Addr) (wr : List Addr) (r : Int) (gi : Nat) (s : Shared) (y : Addr) (h' : Heap) (gens' : Array GenState) : Prop where
  gen : GenOnly gi s.gens gens'
  cell : ∃ dy hs t1 t2, h'.get? y = some (instObj 425 dy) ∧ h'.get? dy = some (cellD hs t1 t2 r) ∧ g.get? dy = none ∧ dy ≠ G ∧ dy ∉ wr
  gy : g.get? y = none
  yG : y ≠ G
  yw : y ∉ wr
  gG : ∃ o, h'.get? G = some o
  kept : ∀ b o, b ≠ G → s.heap.get? b = some o → h'.get? b = some o

theorem nextOf_item {Q : Value → Shared → Prop} (hh : A.handled = none) (hl : s.heap.NoLimit) (hroom : A.depth < recursionLimit)
    (Z : GAt w A g G wr xs cnt a gi j s) (hj : j < cnt) (wx : ∀ b ∈ wr, ∃ o, s.heap.get? b = some o) (aG : a ≠ G)
    (hQ : ∀ y h' tk' gens', Turned g G wr (xs j) gi s y h' gens' → GAt w A g G wr xs cnt a gi (j + 1) { s with heap := h', toks := tk', gens := gens' } → Q (.ref y) { s with heap := h', toks := tk', gens := gens' }) :
    wpAny (model PR w) A (Builtin.SmallTypes.nextOf (.ref a)) Q E s := by
  obtain ⟨ig, gs, hgs, hgo⟩ := Z
  obtain ⟨m, hm⟩ : ∃ m, cnt - j = m + 1 := ⟨cnt - j - 1, by omega⟩
  rw [hm] at hgo
  refine nextOf_gen (P := fun n s₀ s₁ => n = 0 ∧ GenSince G [] s₀ s₁) hh hl hroom ig hgs (hgo _ (fun _ _ _ e => e) wx) (fun v s₁ gs' hv => ?_) (fun s₁ hp h' e hk he => ?_)
  · obtain ⟨⟨y, dy, hs, t1, t2, rfl, e1, e2, g1, g2, n1, n2, w1, w2, w3⟩, ⟨h₁, tk₁, rfl, hk₁⟩, hkap⟩ := hv
    have hidx : cnt - 1 - (m + 1 - 1) = j := by omega
    rw [hidx] at e2
    have hk : ∀ b o, b ≠ G → s.heap.get? b = some o → h₁.get? b = some o := fun b o hb e => hk₁ b o hb (by simp) e
    refine hQ y h₁ tk₁ _ ⟨(GenOnly.setGen s gi .running).trans (GenOnly.setGen _ gi gs'), ⟨dy, hs, t1, t2, e1, e2, g2, n2, w2⟩, g1, n1, w1, w3, hk⟩
      ⟨let ⟨o, nm, qn, ho, r⟩ := ig; ⟨o, nm, qn, hk a o aG ho, r⟩, gs', setGen_self (s := s.setGen gi .running) (gs := .running) (setGen_self hgs), fun s'' k wx' => ?_⟩
    have e : cnt - (j + 1) = m := by omega
    rw [e]
    exact hkap s'' k wx'
  · exact absurd hp.1 (Nat.succ_ne_zero m)

theorem nextOf_done {Q : Value → Shared → Prop} (hh : A.handled = none) (hl : s.heap.NoLimit) (hroom : A.depth < recursionLimit)
    (Z : GAt w A g G wr xs cnt a gi cnt s) (wG : G ∉ wr) (wx : ∀ b ∈ wr, ∃ o, s.heap.get? b = some o)
    (hE : ∀ h' tk' gens' e, GenOnly gi s.gens gens' → gens'[gi]? = some .finished → (∀ b o, b ≠ G → s.heap.get? b = some o → h'.get? b = some o) → (∃ o, h'.get? e = some o ∧ o.cls = .type "StopIteration") → E (.ref e) { s with heap := h', toks := tk', gens := gens' }) :
    wpAny (model PR w) A (Builtin.SmallTypes.nextOf (.ref a)) Q E s := by
  obtain ⟨ig, gs, hgs, hgo⟩ := Z
  rw [Nat.sub_self] at hgo
  refine nextOf_gen (P := fun n s₀ s₁ => n = 0 ∧ GenSince G [] s₀ s₁) hh hl hroom ig hgs (hgo _ (fun _ _ _ e => e) wx) (fun v s₁ gs' hv => ?_) (fun s₁ hp h' e hk he => ?_)
  · obtain ⟨_, ⟨h₁, tk₁, rfl, hk₁⟩, hkap⟩ := hv
    exact (hkap _ (fun _ _ _ e => e) (fun b hb => by
      obtain ⟨o, ho⟩ := wx b hb
      exact ⟨o, hk₁ b o (fun e => wG (e ▸ hb)) (by simp) ho⟩)).elim
  · obtain ⟨_, h₁, tk₁, rfl, hk₁⟩ := hp
    exact hE h' tk₁ _ e ((GenOnly.setGen s gi .running).trans (GenOnly.setGen _ gi .finished)) (setGen_self (s := s.setGen gi .running) (gs := .running) (setGen_self hgs)) (fun b o hb e => hk b o (hk₁ b o hb (by simp) e)) he

/-- the zip's parts, all apart -/
structure ZPart (z TI TO i1 a G : Addr) : Prop where
  TIz : TI ≠ z
  TOz : TO ≠ z
  i1z : i1 ≠ z
  TITO : TI ≠ TO
  TIi1 : TI ≠ i1
  TOi1 : TO ≠ i1
  az : a ≠ z
  aTO : a ≠ TO
  ai1 : a ≠ i1
  zG : z ≠ G
  TIG : TI ≠ G
  TOG : TO ≠ G
  i1G : i1 ≠ G
  aG : a ≠ G

theorem zip_item {z TI TO i1 : Addr} {xv lf : Int} {v1 v2 : Value} {Q : Value → Shared → Prop} (D : ZPart z TI TO i1 a G) (hh : A.handled = none) (hl : s.heap.NoLimit) (hst : cStatics ≠ z ∧ cStatics ≠ TO ∧ cStatics ≠ i1) (hroom : A.depth < recursionLimit)
    (zw : z ∈ wr ∧ TO ∈ wr ∧ i1 ∈ wr) (aw : a ∉ wr) (wG : G ∉ wr) (wx : ∀ b ∈ wr, ∃ o, s.heap.get? b = some o)
    (hz : IsZip s.heap z TI TO .none) (hTI : IsPair s.heap TI (.ref i1) (.ref a)) (hTO : IsPair s.heap TO v1 v2)
    (h1 : IsRangeIter s.heap i1 xv lf 1) (hlf : 0 < lf) (Z : GAt w A g G wr xs cnt a gi j s) (hj : j < cnt)
    (hQ : ∀ (y T : Addr) h' tk' gens', GenOnly gi s.gens gens' → (∃ dy hs t1 t2, h'.get? y = some (instObj 425 dy) ∧ h'.get? dy = some (cellD hs t1 t2 (xs j)) ∧ g.get? dy = none ∧ dy ≠ G ∧ dy ∉ wr) → g.get? y = none → y ≠ G → y ∉ wr →
      IsZip h' z TI TO (rawInt T) → (∃ t, IsPair h' TO (.int xv t) (.ref y) ∧ IsPair h' T (.int xv t) (.ref y)) → IsRangeIter h' i1 (xv + 1) (lf - 1) 1 → s.heap.get? T = none → T ≠ G →
      (∀ b o, b ≠ G → b ∉ wr → s.heap.get? b = some o → h'.get? b = some o) → (∀ b ∈ wr, ∃ o, h'.get? b = some o) → (∀ b o, b ≠ z → b ≠ TO → b ≠ i1 → b ≠ G → s.heap.get? b = some o → h'.get? b = some o) →
      GAt w A g G wr xs cnt a gi (j + 1) { s with heap := h', toks := tk', gens := gens' } → Q (.ref T) { s with heap := h', toks := tk', gens := gens' }) :
    wpAny (model PR w) A (Builtin.«zip.__next__» ⟨[.ref z], []⟩) (fun fin s' => ∃ v, fin = .done (.ret v) ∧ Q v s') E s := by
  show wpAny _ _ (field (.ref z) 2 >>= _) _ _ _
  refine wpAny_bind (wpAny_field hz rfl (x := .bool false) rfl ?_)
  show wpAny _ _ (field (.ref z) 3 >>= _) _ _ _
  refine wpAny_bind (wpAny_field hz rfl (x := .ref TI) rfl ?_)
  refine wpAny_bind (wpAny_seqItems hTI rfl ?_)
  show wpAny _ _ (Builtin.SmallTypes.ownedTupleIsFree (.ref z) >>= _) _ _ _
  refine wpAny_bind ?_
  unfold Builtin.SmallTypes.ownedTupleIsFree
  refine wpAny_bind (wpAny_field hz rfl (x := .none) rfl (wpAny_pure ?_))
  simp only [if_true]
  refine wpAny_bind (wpAny_rule ?_)
  refine wpAny_bind (wpAny_field hz rfl (x := .ref TO) rfl ?_)
  refine wpAny_bind (wpAny_setField_rec hz (by simp) fun h₁ hz₁ hs₁ => ?_)
  replace hz₁ : IsZip h₁ z TI TO .ellipsis := hz₁
  refine wpAny_bind ?_
  simp only [List.zipIdx_cons, List.zipIdx_nil, List.forIn_cons, List.forIn_nil]
  refine wpAny_bind (wpAny_bind (wpAny_onRaise ?_))
  show wpAny _ _ (Builtin.SmallTypes.nextOf (.ref i1) >>= _) _ _ _
  have h1₁ : IsRangeIter h₁ i1 xv lf 1 := hs₁.extBut _ _ D.i1z h1
  refine wpAny_bind (nextOf_range h1₁ hlf fun h₂ h1₂ hs₂ => wpAny_pure ?_)
  have hTO₂ : IsPair h₂ TO v1 v2 := hs₂.extBut _ _ D.TOi1 (hs₁.extBut _ _ D.TOz hTO)
  refine wpAny_bind (wpAny_seqItems hTO₂ rfl ?_)
  refine wpAny_bind (wpAny_updateSeq_pair hTO₂ fun h₃ hTO₃ hs₃ => ?_)
  replace hTO₃ : IsPair h₃ TO (.int xv s.toks) v2 := hTO₃
  refine wpAny_bind (wpAny_letGo (wpAny_pure ?_))
  refine wpAny_bind (wpAny_bind (wpAny_onRaise ?_))
  show wpAny _ _ (Builtin.SmallTypes.nextOf (.ref a) >>= _) _ _ _
  have k3 : ∀ b o, b ≠ z → b ≠ TO → b ≠ i1 → s.heap.get? b = some o → h₃.get? b = some o := fun b o c1 c2 c3 e => hs₃.extBut _ _ c2 (hs₂.extBut _ _ c3 (hs₁.extBut _ _ c1 e))
  have kw3 : ∀ b o, b ∉ wr → s.heap.get? b = some o → h₃.get? b = some o := fun b o hb e => k3 b o (fun q => hb (q ▸ zw.1)) (fun q => hb (q ▸ zw.2.1)) (fun q => hb (q ▸ zw.2.2)) e
  have hz₃ : IsZip h₃ z TI TO .ellipsis := hs₃.extBut _ _ D.TOz.symm (hs₂.extBut _ _ D.i1z.symm hz₁)
  have h1₃ : IsRangeIter h₃ i1 (xv + 1) (lf - 1) 1 := hs₃.extBut _ _ D.TOi1.symm h1₂
  have wx3 : ∀ b ∈ wr, ∃ o, h₃.get? b = some o := fun b hb => by
    by_cases e1 : b = z
    · exact ⟨_, e1 ▸ hz₃⟩
    by_cases e2 : b = TO
    · exact ⟨_, e2 ▸ hTO₃⟩
    by_cases e3 : b = i1
    · exact ⟨_, e3 ▸ h1₃⟩
    obtain ⟨o, ho⟩ := wx b hb
    exact ⟨o, k3 b o e1 e2 e3 ho⟩
  have hl3 : h₃.NoLimit := let ⟨mc, hns, hnn⟩ := hl; ⟨mc, hns.at' fun o e => k3 _ o hst.1 hst.2.1 hst.2.2 e, hnn⟩
  refine wpAny_bind (nextOf_item (s := { s with heap := h₃, toks := s.toks + 1 }) hh hl3 hroom (Z.keeps aw kw3) hj wx3 D.aG fun y h₄ tk₄ gens' Y Z₄ => wpAny_pure ?_)
  have hTO₄ : IsPair h₄ TO (.int xv s.toks) v2 := Y.kept _ _ D.TOG hTO₃
  refine wpAny_bind (wpAny_seqItems hTO₄ rfl ?_)
  refine wpAny_bind (wpAny_updateSeq_pair hTO₄ fun h₅ hTO₅ hs₅ => ?_)
  replace hTO₅ : IsPair h₅ TO (.int xv s.toks) (.ref y) := hTO₅
  refine wpAny_bind (wpAny_letGo (wpAny_pure (wpAny_pure ?_)))
  refine wpAny_bind (wpAny_seqItems hTO₅ rfl ?_)
  refine wpAny_bind (wpAny_newTuple ?_)
  have hz₅ : IsZip h₅ z TI TO .ellipsis := hs₅.extBut _ _ D.TOz.symm (Y.kept _ _ D.zG hz₃)
  have h1₅ : IsRangeIter h₅ i1 (xv + 1) (lf - 1) 1 := hs₅.extBut _ _ D.TOi1.symm (Y.kept _ _ D.i1G h1₃)
  have hzlt : z < h₅.objs.size := Heap.lt_size hz₅
  show wpAny _ _ (Builtin.SmallTypes.ownedTupleHandOut (.ref z) (.ref h₅.objs.size) >>= _) _ _ _
  refine wpAny_bind ?_
  unfold Builtin.SmallTypes.ownedTupleHandOut
  have hz₆ : IsZip (h₅.push { cls := .type "tuple", data := .seq #[.int xv s.toks, .ref y] }) z TI TO .ellipsis := Heap.get?_push_of_some _ hz₅
  refine wpAny_bind (wpAny_setField_rec hz₆ (by simp) fun h₇ hz₇ hs₇ => ?_)
  replace hz₇ : IsZip h₇ z TI TO (rawInt h₅.objs.size) := hz₇
  refine wpAny_setField_rec hz₇ (by simp) fun h₈ hz₈ hs₈ => ?_
  replace hz₈ : IsZip h₈ z TI TO (rawInt h₅.objs.size) := hz₈
  have up : ∀ c o, c ≠ z → h₅.get? c = some o → h₈.get? c = some o := fun c o c1 e => hs₈.extBut _ _ c1 (hs₇.extBut _ _ c1 (Heap.get?_push_of_some _ e))
  have k8 : ∀ c o, c ≠ z → c ≠ TO → h₄.get? c = some o → h₈.get? c = some o := fun c o c1 c2 e => up c o c1 (hs₅.extBut _ _ c2 e)
  have kw8 : ∀ c o, c ∉ wr → h₄.get? c = some o → h₈.get? c = some o := fun c o hc e => k8 c o (fun q => hc (q ▸ zw.1)) (fun q => hc (q ▸ zw.2.1)) e
  have hT₈ : IsPair h₈ h₅.objs.size (.int xv s.toks) (.ref y) := hs₈.extBut _ _ (Nat.ne_of_gt hzlt) (hs₇.extBut _ _ (Nat.ne_of_gt hzlt) (Heap.get?_push_size _ rfl))
  refine wpAny_pure ⟨_, rfl, ?_⟩
  show Q (.ref h₅.objs.size) _
  obtain ⟨dy, hs, t1, t2, c1, c2, c3, c4, c5⟩ := Y.cell
  have all : ∀ b o, b ≠ z → b ≠ TO → b ≠ i1 → b ≠ G → s.heap.get? b = some o → h₈.get? b = some o := fun b o c1 c2 c3 c4 e => k8 b o c1 c2 (Y.kept b o c4 (k3 b o c1 c2 c3 e))
  have hGlt : G < h₅.objs.size := let ⟨oG, hG⟩ := Y.gG; Heap.lt_size (hs₅.extBut _ _ D.TOG.symm hG)
  have hsz : ∀ b o, s.heap.get? b = some o → b < h₅.objs.size := fun b o e => by
    have e1 : b < s.heap.objs.size := Heap.lt_size e
    have e2 : s.heap.objs.size = h₃.objs.size := by rw [hs₃.1, hs₂.1, hs₁.1]
    by_cases c1 : b = z
    · rw [c1]; exact hzlt
    by_cases c2 : b = TO
    · rw [c2]; exact Heap.lt_size hTO₅
    by_cases c3 : b = i1
    · rw [c3]; exact Heap.lt_size h1₅
    by_cases c4 : b = G
    · rw [c4]; exact hGlt
    exact Heap.lt_size (hs₅.extBut _ _ c2 (Y.kept b o c4 (k3 b o c1 c2 c3 e)))
  refine hQ y _ h₈ tk₄ gens' Y.gen ⟨dy, hs, t1, t2, kw8 _ _ Y.yw c1, kw8 _ _ c5 c2, c3, c4, c5⟩ Y.gy Y.yG Y.yw hz₈ ⟨_, up _ _ D.TOz hTO₅, hT₈⟩ (up _ _ D.i1z h1₅) ?_ ?_ (fun b o hG hb e => all b o (fun q => hb (q ▸ zw.1)) (fun q => hb (q ▸ zw.2.1)) (fun q => hb (q ▸ zw.2.2)) hG e) (fun b hb => ?_) all (Z₄.keeps aw kw8)
  · cases q : s.heap.get? h₅.objs.size with
    | none => rfl
    | some o => exact absurd (hsz _ _ q) (Nat.lt_irrefl _)
  · exact Nat.ne_of_gt hGlt
  · by_cases e1 : b = z
    · exact ⟨_, e1 ▸ hz₈⟩
    by_cases e2 : b = TO
    · exact ⟨_, e2 ▸ (up _ _ D.TOz hTO₅)⟩
    by_cases e3 : b = i1
    · exact ⟨_, e3 ▸ (up _ _ D.i1z h1₅)⟩
    obtain ⟨o, ho⟩ := wx b hb
    by_cases e4 : b = G
    · exact absurd (e4 ▸ hb) wG
    exact ⟨o, all b o e1 e2 e3 e4 ho⟩
end
end Mine
-- part GZ2
namespace Mine
open PySem.W
section
variable {w : World} {A : Around} {g : Heap} {G : Addr} {wr : List Addr} {xs : Nat → Int} {cnt : Nat} {E : Value → Shared → Prop} {a : Addr} {gi j : Nat} {s : Shared}
theorem zip_end {z TI TO i1 : Addr} {xv lf : Int} {v1 v2 : Value} {Q : Fin → Shared → Prop} (D : ZPart z TI TO i1 a G) (hh : A.handled = none) (hl : s.heap.NoLimit) (hst : cStatics ≠ z ∧ cStatics ≠ TO ∧ cStatics ≠ i1) (hroom : A.depth < recursionLimit)
    (zw : z ∈ wr ∧ TO ∈ wr ∧ i1 ∈ wr) (aw : a ∉ wr) (wG : G ∉ wr) (wx : ∀ b ∈ wr, ∃ o, s.heap.get? b = some o)
    (hz : IsZip s.heap z TI TO .none) (hTI : IsPair s.heap TI (.ref i1) (.ref a)) (hTO : IsPair s.heap TO v1 v2)
    (h1 : IsRangeIter s.heap i1 xv lf 1) (hlf : 0 < lf) (Z : GAt w A g G wr xs cnt a gi cnt s)
    (hE : ∀ h' tk' gens' e, GenOnly gi s.gens gens' → gens'[gi]? = some .finished → (∀ b o, b ≠ z → b ≠ TO → b ≠ i1 → b ≠ G → s.heap.get? b = some o → h'.get? b = some o) → (∃ o, h'.get? e = some o ∧ o.cls = .type "StopIteration") →
      E (.ref e) { s with heap := h', toks := tk', gens := gens' }) :
    wpAny (model PR w) A (Builtin.«zip.__next__» ⟨[.ref z], []⟩) Q E s := by
  show wpAny _ _ (field (.ref z) 2 >>= _) _ _ _
  refine wpAny_bind (wpAny_field hz rfl (x := .bool false) rfl ?_)
  show wpAny _ _ (field (.ref z) 3 >>= _) _ _ _
  refine wpAny_bind (wpAny_field hz rfl (x := .ref TI) rfl ?_)
  refine wpAny_bind (wpAny_seqItems hTI rfl ?_)
  show wpAny _ _ (Builtin.SmallTypes.ownedTupleIsFree (.ref z) >>= _) _ _ _
  refine wpAny_bind ?_
  unfold Builtin.SmallTypes.ownedTupleIsFree
  refine wpAny_bind (wpAny_field hz rfl (x := .none) rfl (wpAny_pure ?_))
  simp only [if_true]
  refine wpAny_bind (wpAny_rule ?_)
  refine wpAny_bind (wpAny_field hz rfl (x := .ref TO) rfl ?_)
  refine wpAny_bind (wpAny_setField_rec hz (by simp) fun h₁ hz₁ hs₁ => ?_)
  replace hz₁ : IsZip h₁ z TI TO .ellipsis := hz₁
  refine wpAny_bind ?_
  simp only [List.zipIdx_cons, List.zipIdx_nil, List.forIn_cons, List.forIn_nil]
  refine wpAny_bind (wpAny_bind (wpAny_onRaise ?_))
  show wpAny _ _ (Builtin.SmallTypes.nextOf (.ref i1) >>= _) _ _ _
  have h1₁ : IsRangeIter h₁ i1 xv lf 1 := hs₁.extBut _ _ D.i1z h1
  refine wpAny_bind (nextOf_range h1₁ hlf fun h₂ h1₂ hs₂ => wpAny_pure ?_)
  have hTO₂ : IsPair h₂ TO v1 v2 := hs₂.extBut _ _ D.TOi1 (hs₁.extBut _ _ D.TOz hTO)
  refine wpAny_bind (wpAny_seqItems hTO₂ rfl ?_)
  refine wpAny_bind (wpAny_updateSeq_pair hTO₂ fun h₃ hTO₃ hs₃ => ?_)
  replace hTO₃ : IsPair h₃ TO (.int xv s.toks) v2 := hTO₃
  refine wpAny_bind (wpAny_letGo (wpAny_pure ?_))
  refine wpAny_bind (wpAny_bind (wpAny_onRaise ?_))
  show wpAny _ _ (Builtin.SmallTypes.nextOf (.ref a) >>= _) _ _ _
  have k3 : ∀ b o, b ≠ z → b ≠ TO → b ≠ i1 → s.heap.get? b = some o → h₃.get? b = some o := fun b o c1 c2 c3 e => hs₃.extBut _ _ c2 (hs₂.extBut _ _ c3 (hs₁.extBut _ _ c1 e))
  have kw3 : ∀ b o, b ∉ wr → s.heap.get? b = some o → h₃.get? b = some o := fun b o hb e => k3 b o (fun q => hb (q ▸ zw.1)) (fun q => hb (q ▸ zw.2.1)) (fun q => hb (q ▸ zw.2.2)) e
  have hz₃ : IsZip h₃ z TI TO .ellipsis := hs₃.extBut _ _ D.TOz.symm (hs₂.extBut _ _ D.i1z.symm hz₁)
  have h1₃ : IsRangeIter h₃ i1 (xv + 1) (lf - 1) 1 := hs₃.extBut _ _ D.TOi1.symm h1₂
  have wx3 : ∀ b ∈ wr, ∃ o, h₃.get? b = some o := fun b hb => by
    by_cases e1 : b = z
    · exact ⟨_, e1 ▸ hz₃⟩
    by_cases e2 : b = TO
    · exact ⟨_, e2 ▸ hTO₃⟩
    by_cases e3 : b = i1
    · exact ⟨_, e3 ▸ h1₃⟩
    obtain ⟨o, ho⟩ := wx b hb
    exact ⟨o, k3 b o e1 e2 e3 ho⟩
  have hl3 : h₃.NoLimit := let ⟨mc, hns, hnn⟩ := hl; ⟨mc, hns.at' fun o e => k3 _ o hst.1 hst.2.1 hst.2.2 e, hnn⟩
  refine wpAny_bind (nextOf_done (s := { s with heap := h₃, toks := s.toks + 1 }) hh hl3 hroom (Z.keeps aw kw3) wG wx3 fun h₄ tk₄ gens' e ge gf k4 he => ?_)
  have hz₄ : IsZip h₄ z TI TO .ellipsis := k4 _ _ D.zG hz₃
  obtain ⟨oe, hoe, hce⟩ := he
  have hez : e ≠ z := fun x => by subst x; rw [hz₄] at hoe; cases hoe; simp at hce
  exact wpAny_setField_rec hz₄ (by simp) fun h₅ _ hs₅ => hE h₅ tk₄ gens' e ge gf (fun b o c1 c2 c3 c4 x => hs₅.extBut _ _ c1 (k4 _ _ c4 (k3 b o c1 c2 c3 x))) ⟨oe, hs₅.extBut _ _ hez hoe, hce⟩
end
section
variable {w : World} {A : Around} {g : Heap} {G : Addr} {wr : List Addr} {xs : Nat → Int} {cnt : Nat} {E : Value → Shared → Prop} {a : Addr} {gi j : Nat} {s : Shared}
/-- the zip between two turns: j handed out of it -/
structure ZSt (w : World) (A : Around) (g : Heap) (G : Addr) (wr : List Addr) (xs : Nat → Int) (cnt : Nat) (a z TI TO i1 : Addr) (gi j : Nat) (s : Shared) : Prop where
  hz : IsZip s.heap z TI TO .none
  hTI : IsPair s.heap TI (.ref i1) (.ref a)
  hTO : ∃ v1 v2, IsPair s.heap TO v1 v2
  h1 : IsRangeIter s.heap i1 (j : Int) (5 - j) 1
  Z : GAt w A.in1 g G wr xs cnt a gi j s
  wx : ∀ b ∈ wr, ∃ o, s.heap.get? b = some o
theorem ZSt.keeps {z TI TO i1 : Addr} (S : ZSt w A g G wr xs cnt a z TI TO i1 gi j s) (aw : a ∉ wr) {h' : Heap} {tk' : Nat} (hk : ∀ b o, b ∉ wr ∨ b = z ∨ b = TO ∨ b = i1 → s.heap.get? b = some o → h'.get? b = some o) (TIw : TI ∉ wr) (wx : ∀ b ∈ wr, ∃ o, h'.get? b = some o) :
    ZSt w A g G wr xs cnt a z TI TO i1 gi j { s with heap := h', toks := tk' } :=
  ⟨hk _ _ (.inr (.inl rfl)) S.hz, hk _ _ (.inl TIw) S.hTI, let ⟨v1, v2, e⟩ := S.hTO; ⟨v1, v2, hk _ _ (.inr (.inr (.inl rfl))) e⟩, hk _ _ (.inr (.inr (.inr rfl))) S.h1, S.Z.keeps aw fun b o hb e => hk b o (.inl hb) e, wx⟩

theorem zipn_item {z TI TO i1 : Addr} {Q : Option Value → Shared → Prop} (D : ZPart z TI TO i1 a G) (hh : A.handled = none) (hl : s.heap.NoLimit) (hst : cStatics ≠ z ∧ cStatics ≠ TO ∧ cStatics ≠ i1) (hroom : A.depth < recursionLimit)
    (zw : z ∈ wr ∧ TO ∈ wr ∧ i1 ∈ wr) (aw : a ∉ wr) (wG : G ∉ wr) (S : ZSt w A g G wr xs cnt a z TI TO i1 gi j s) (hj : j < cnt) (h5 : cnt < 5)
    (hQ : ∀ (y T : Addr) h' tk' gens', GenOnly gi s.gens gens' → (∃ dy hs t1 t2, h'.get? y = some (instObj 425 dy) ∧ h'.get? dy = some (cellD hs t1 t2 (xs j)) ∧ g.get? dy = none ∧ dy ≠ G ∧ dy ∉ wr) → g.get? y = none → y ≠ G → y ∉ wr →
      IsZip h' z TI TO (rawInt T) → (∃ t, IsPair h' TO (.int j t) (.ref y) ∧ IsPair h' T (.int j t) (.ref y)) → IsRangeIter h' i1 (j + 1) (5 - (j + 1)) 1 → s.heap.get? T = none → T ≠ G →
      (∀ b o, b ≠ G → b ∉ wr → s.heap.get? b = some o → h'.get? b = some o) → (∀ b ∈ wr, ∃ o, h'.get? b = some o) → (∀ b o, b ≠ z → b ≠ TO → b ≠ i1 → b ≠ G → s.heap.get? b = some o → h'.get? b = some o) →
      GAt w A.in1 g G wr xs cnt a gi (j + 1) { s with heap := h', toks := tk', gens := gens' } → Q (some (.ref T)) { s with heap := h', toks := tk', gens := gens' }) :
    wpAny (model PR w) A (pyNext (.ref z)) Q E s := by
  have hT : s.TypeIs (.ref z) "zip" := ⟨_, S.hz, rfl⟩
  obtain ⟨v1, v2, hTO⟩ := S.hTO
  unfold pyNext
  refine wpAny_bind (wpAny_attempt (wpAny_callSpecial?_slot (name := Str.ofString "__next__") hT F.slot_zip_next
    (wpAny_call_entry F.slot_zip_next hT F.entry_zip_next
      (zip_item D hh hl hst hroom zw aw wG S.wx S.hz S.hTI hTO S.h1 (by omega) S.Z hj fun y T h' tk' gens' a1 a2 a3 a4 a5 a6 a7 a8 a9 a10 a11 a12 a13 a14 => wpAny_pure ?_) (F.args_zip_next_1 _))))
  refine hQ y T h' tk' gens' a1 a2 a3 a4 a5 a6 a7 ?_ a9 a10 a11 a12 a13 a14
  have e : (5 - (j : Int)) - 1 = 5 - ((j : Int) + 1) := by omega
  rw [← e]; exact a8

theorem zipn_end {z TI TO i1 : Addr} {Q : Option Value → Shared → Prop} (D : ZPart z TI TO i1 a G) (hh : A.handled = none) (hl : s.heap.NoLimit) (hst : cStatics ≠ z ∧ cStatics ≠ TO ∧ cStatics ≠ i1) (hroom : A.depth < recursionLimit)
    (zw : z ∈ wr ∧ TO ∈ wr ∧ i1 ∈ wr) (aw : a ∉ wr) (wG : G ∉ wr) (S : ZSt w A g G wr xs cnt a z TI TO i1 gi cnt s) (h5 : cnt < 5)
    (hQ : ∀ h' tk' gens', GenOnly gi s.gens gens' → gens'[gi]? = some .finished → (∀ b o, b ≠ z → b ≠ TO → b ≠ i1 → b ≠ G → s.heap.get? b = some o → h'.get? b = some o) → Q none { s with heap := h', toks := tk', gens := gens' }) :
    wpAny (model PR w) A (pyNext (.ref z)) Q E s := by
  have hT : s.TypeIs (.ref z) "zip" := ⟨_, S.hz, rfl⟩
  obtain ⟨v1, v2, hTO⟩ := S.hTO
  unfold pyNext
  refine wpAny_bind (wpAny_attempt (wpAny_callSpecial?_slot (name := Str.ofString "__next__") hT F.slot_zip_next
    (wpAny_call_entry F.slot_zip_next hT F.entry_zip_next (zip_end D hh hl hst hroom zw aw wG S.wx S.hz S.hTI hTO S.h1 (by omega) S.Z fun h' tk' gens' e ge gf hk he => ?_) (F.args_zip_next_1 _))))
  obtain ⟨o, ho, hc⟩ := he
  refine wpAny_bind (wpAny_isInstance (T := "StopIteration") (b := true) ⟨o, ho, hc⟩ isSubtype_stop ?_)
  exact wpAny_pure (hQ _ _ _ ge gf hk)
end

abbrev zgH1 (h : Heap) (l1 : Addr) : Heap := h.push { cls := .type "range_iterator", data := .fields #[rawInt 0, rawInt 5, rawInt 1] }
abbrev zgH2 (h : Heap) (l1 a : Addr) : Heap := (zgH1 h l1).push { cls := .type "tuple", data := .seq #[.ref h.objs.size, .ref a] }
abbrev zgH3 (h : Heap) (l1 a : Addr) : Heap := (zgH2 h l1 a).push { cls := .type "tuple", data := .seq #[.none, .none] }
abbrev zgH4 (h : Heap) (l1 a : Addr) : Heap := (zgH3 h l1 a).push { cls := .type "zip", data := .fields #[.none, .bool false, .bool false, .ref (zgH1 h l1).objs.size, .ref (zgH2 h l1 a).objs.size] }
theorem meets_zip_rg (l1 a : Addr) (gi : Nat) (t u v : Tok) :
    Meets (Builtin.«zip.__new__» ⟨[.type "zip", .ref l1, .ref a], []⟩) (fun _ R s => IsRange s.heap l1 0 5 1 t u v ∧ s.heap.IsGen a gi ∧
      R (.ok (.ret (.ref (zgH3 s.heap l1 a).objs.size))) { s with heap := zgH4 s.heap l1 a }) :=
  .of_wp fun prog w A R s h => by
    obtain ⟨hp, g, d, tk, os⟩ := s; obtain ⟨hl1, hl2, h⟩ := h
    have hsub := sub_zip
    have hL1 : IsRange (Shared.heap ⟨hp, g, d, tk, os⟩) l1 0 5 1 t u v := hl1
    have hL2 : Heap.IsGen (Shared.heap ⟨hp.push { cls := .type "range_iterator", data := .fields #[rawInt 0, rawInt (Builtin.Range.rangeSize 0 5 1), rawInt 1] }, g, d, tk, os⟩) a gi := Heap.IsGen.push hl2 _
    have hsm : Builtin.Range.small 0 5 1 = true := by decide
    wp_walk using wpAny_pyIter_range hL1 hsm, wpAny_pyIter_gen hL2
    exact ⟨_, rfl, h⟩
end Mine
-- part GZ3
section
local macro_rules | `(tactic| walk_at "m_room") => `(tactic| ((try simp only [depth_in1, depth_deeper, Around.deeper, Around.mark, depth_under_make]); omega))
local macro_rules | `(tactic| walk_at "m_units") => `(tactic| ((try simp only [units_in1, units_deeper, Around.mark_units]); omega))
local macro_rules | `(tactic| k_units) => `(tactic| walk_at "m_units")
local macro_rules | `(tactic| k_room) => `(tactic| walk_at "m_room")
local macro_rules | `(tactic| walk_at "m_cell") => `(tactic| exact Mine.isCell_of (by k_asm) (by k_mem) (by k_mem))
local macro_rules | `(tactic| walk_at "m_end") => `(tactic| ((try dsimp only); refine' Mine.endK_ ?F ?N ?S ?_; (case F => k_asm); (case N => k_asm); (case S => k_sub)))
local macro_rules | `(tactic| walk_at "getMethod ref") => `(tactic| (k_here; (with_reducible show wpAny _ _ (getMethod (Value.ref _) (PySem.Str.ofString "__class__") _) _ _ _); k_dflt (refine' Mine.meth_class ?F ?X ?I ?_; (case F => k_asm); (case X => k_asm); (case I => k_inst); k_whole)))
local macro_rules | `(tactic| walk_at "eval Name") => `(tactic| (k_here; (with_reducible show wpAny _ _ (eval _ (envOf _ _ _ _ _)) _ _ _); k_dflt (refine' ld ?k1 ?k2 ?_; (case k1 => k_asm); (case k2 => exact rfl); k_whole)))
local macro_rules | `(tactic| walk_at "getMethod ref") => `(tactic| (k_here; k_dflt (refine' method_inst ?k1 ?k2 ?k3 ?k4 ?k5 ?k6 ?k7 ?_; (case k1 => k_asm); (case k2 => k_asm); (case k3 => k_inst); (case k4 => k_is); (case k5 => k_is); (case k6 => k_is); (case k7 => k_get); k_whole)))
local macro_rules | `(tactic| walk_at "callWith ref") => `(tactic| (k_here; (with_reducible show wpAny _ _ (PySem.callWith _ (Value.ref _) _ (backTo _ (starEach [] _)) []) _ _ _); k_dflt (refine' callWith_K0 ?k1 ?k2 ?_; (case k1 => k_in); (case k2 => k_is); k_whole)))
local macro_rules | `(tactic| walk_at "getAttr ref") => `(tactic| (k_here; k_dflt (refine' get_own ?k1 ?k2 ?k3 ?k4 ?k5 ?k6 ?k7 ?k8 ?k9 ?_; (case k1 => k_asm); (case k2 => k_asm); (case k3 => k_inst); (case k4 => k_is); (case k5 => k_is); (case k6 => k_is); (case k7 => k_is); (case k8 => k_get); (case k9 => k_handed); k_whole)))
local macro_rules | `(tactic| walk_at "binaryOp Pow int int") => `(tactic| (k_here; (with_reducible refine pow_int_small ?a ?b ?c ?_); (case a => omega); (case b => omega); (case c => first | decide | omega)))
local macro_rules | `(tactic| walk_at "binaryOp LShift int int") => `(tactic| (k_here; (with_reducible refine lshift_int_small ?a ?b ?c ?_); (case a => omega); (case b => omega); (case c => first | decide | omega)))
namespace Mine
open PySem.W
open PyProof.Rows.LCp PyProof.Rows.LCg
theorem use_id {w : World} {A : Around} {s : Shared} {h₀ : Heap} {L x : Addr} {n : Int} {m : Str → Option Value} {mg mb : Str → Option Value} {p : Program} {loose : List Str} {Q : Value → Shared → Prop} {E : Value → Shared → Prop}
    (F : Fr h₀ L s.heap m) (X : (hd.heap_39 w.params).In h₀) (T : TopRead p loose mg mb h₀) (hp : IsCell h₀ s.heap x n) (hA : A.depth + 1 < recursionLimit) (hu : A.units + 5 * 1 < cLine)
    (h : ∀ tk h' tk', Keep s.heap h' → Q (.int n tk) { s with heap := h', toks := tk' }) : wpAny (model PR w) A (call (.ref 194) [.ref x]) Q E s :=
  ret_call (ct_id w x n A s h₀ mg mb p loose Q ⟨X, T⟩ F.keep hp hA hu fun v h' tk' k ⟨tk, e⟩ => by subst e; exact h tk h' tk' k)
end Mine
local macro_rules | `(tactic| walk_at "call ref") => `(tactic| (k_here; (with_reducible show wpAny _ _ (call (Value.ref 194) _ _) _ _ _); refine' Mine.use_id ?F ?X ?T ?P ?A ?U ?_; (case F => k_asm); (case X => k_asm); (case T => k_asm); (case P => walk_at "m_cell"); (case A => walk_at "m_room"); (case U => walk_at "m_units"); intro tk' h' tk'' K'))
namespace Mine
open PySem.W
open PyProof.Rows.LCp PyProof.Rows.LCg
theorem elt_id {w : World} {A : Around} {s : Shared} {g : Heap} {L y dy : Addr} {hs : Int} {t1 t2 : Tok} {r : Int} {m : Str → Option Value} {mg mb : Str → Option Value} {p : Program} {loose : List Str} {Q : Value → Shared → Prop} {E : Value → Shared → Prop} {env : Env} {elt o : PySem.Expr} {pos : Pos} {pl : Sem Bool}
    (hm : ∀ (Q E : Value → Shared → Prop), wpAny (model PR w) A (eval o env) (fun ov s₁ => wpAny (model PR w) A (getMethod ov (PySem.Str.ofString "id") pl) (fun fx s₂ => wpAny (model PR w) A (callWith pos fx.1 fx.2 (backTo pos (starEach [] env)) []) Q E s₂) E s₁) E s → wpAny (model PR w) A (eval elt env) Q E s)
    (F : Fr g L s.heap m) (N : News g L s.heap [(y, instObj 425 dy), (dy, cellD hs t1 t2 r)]) (X : (hd.heap_39 w.params).In g) (T : TopRead p loose mg mb g) (hA : A.depth + 20 < recursionLimit) (hu : A.units + 100 < cLine)
    (hone : ∀ (Q : Value → Shared → Prop) E, Q (.ref y) s → wpAny (model PR w) A (eval o env) Q E s)
    (h : ∀ tk h' tk', Keep s.heap h' → Q (.int r tk) { s with heap := h', toks := tk' }) : wpAny (model PR w) A (eval elt env) Q E s := by
  refine hm _ _ (hone _ _ ?_)
  k_steps
  exact h _ _ _ (by assumption)
/-- the scope of [one.id() for k, one in zip(..)] -/
abbrev zcScope (xk xo : Str) : Scope := { kind := .function, names := [(PySem.Str.ofString ".0", .local), (xk, .local), (xo, .local)], isGenerator := false, isCoroutine := false, more := [] }
section
variable {w : World} {A : Around} {g : Heap} {G L : Addr} {xs : Nat → Int} {cnt : Nat} {a z TI TO i1 acc C : Addr} {gi : Nat} {s : Shared} {m : Str → Option Value} {mg mb : Str → Option Value} {p : Program} {loose : List Str}
theorem zc_loop {R : Result → Shared → Prop} {env : Env} {xk xo : Str} {pk pz tp pos : Pos} {x1 : Nat} {iter elt : PySem.Expr} {m0 : Str → Option Value} (hxx : xk ≠ xo) (hG0 : g.get? G = none) (hk1 : (zcScope xk xo).names.lookup xk = some .local) (hk2 : (zcScope xk xo).names.lookup xo = some .local)
    (X : (hd.heap_39 w.params).In g) (T : TopRead p loose mg mb g) (hA : A.depth + 60 < recursionLimit) (hu : A.units + 300 < cLine) (hh : A.handled = none)
    (D : ZPart z TI TO i1 a G) (wg : ∀ b ∈ [z, TO, i1, acc, C, L], g.get? b = none) (aw : a ∉ [z, TO, i1, acc, C, L]) (wG : G ∉ [z, TO, i1, acc, C, L]) (TIw : TI ∉ [z, TO, i1, acc, C, L])
    (d1 : C ≠ z ∧ C ≠ TO ∧ C ≠ i1 ∧ C ≠ acc ∧ C ≠ L) (d2 : acc ≠ z ∧ acc ≠ TO ∧ acc ≠ i1 ∧ acc ≠ L) (d3 : L ≠ z ∧ L ≠ TO ∧ L ≠ i1) (h5 : cnt < 5)
    (F : Fr g L s.heap m) (hC : s.heap.Ns C m0) (hacc : s.heap.get? acc = some (lst [])) (S : ZSt w A g G [z, TO, i1, acc, C, L] xs cnt a z TI TO i1 gi 0 s)
    (helt : ∀ (s' : Shared) (m₂ : Str → Option Value) (y dy : Addr) (hs : Int) (t1 t2 : Tok) (r : Int) (Q E : Value → Shared → Prop), Fr g L s'.heap m → News g L s'.heap [(y, instObj 425 dy), (dy, cellD hs t1 t2 r)] → s'.heap.Ns C m₂ → m₂ xo = some (.ref y) →
      (∀ tk h' tk', Keep s'.heap h' → Q (.int r tk) { s' with heap := h', toks := tk' }) → wpAny (model PR w) A (eval elt (compEnv (zcScope xk xo) C env)) Q E s')
    (hR : ∀ h' tk gens' ys m', GenOnly gi s.gens gens' → gens'[gi]? = some .finished → ys.length = cnt → (∀ i v, ys[i]? = some v → ∃ t, v = Value.int (xs i) t) → h'.get? acc = some (lst ys) → h'.Ns C m' → Fr g L h' m →
      (∀ b o, b ∉ [z, TO, i1, acc, C, L] → b ≠ G → s.heap.get? b = some o → h'.get? b = some o) → R (.ok .next) { s with heap := h', toks := tk, gens := gens' }) :
    codeAny (model PR w) A (.compLoop (.ListComp elt [⟨.Tuple [.Name xk pk, .Name xo pz] x1 tp, iter, [], 0⟩] (zcScope xk xo) pos) 0 (.ref z) (.ref acc) (compEnv (zcScope xk xo) C env)) R s := by
  have hCG : C ≠ G := fun e => wG (by simp [← e])
  have hLG : L ≠ G := fun e => wG (by simp [← e])
  have haG : acc ≠ G := fun e => wG (by simp [← e])
  have nost : ∀ b ∈ [z, TO, i1, acc, C, L], cStatics ≠ b := fun b hb e => by
    have h1 := wg b hb
    obtain ⟨_, ⟨o, _, _, ho, _⟩, _⟩ := T.nolimit
    rw [← e, ho] at h1; cases h1
  have hst : cStatics ≠ z ∧ cStatics ≠ TO ∧ cStatics ≠ i1 := ⟨nost _ (by simp), nost _ (by simp), nost _ (by simp)⟩
  have gne : ∀ b o, g.get? b = some o → b ∉ [z, TO, i1, acc, C, L] := fun b o e hb => by rw [wg b hb] at e; cases e
  refine codeAny_compLoop_pair
    (fun k s' => ∃ i h' tk gens' ys m', s' = { s with heap := h', toks := tk, gens := gens' } ∧ i ≤ cnt ∧ k = cnt + 1 - i ∧ ys.length = i ∧ (∀ i v, ys[i]? = some v → ∃ t, v = Value.int (xs i) t) ∧
      ZSt w A g G [z, TO, i1, acc, C, L] xs cnt a z TI TO i1 gi i { s with heap := h', toks := tk, gens := gens' } ∧ h'.Ns C m' ∧ h'.get? acc = some (lst ys) ∧ Fr g L h' m ∧ GenOnly gi s.gens gens' ∧
      (∀ b o, b ∉ [z, TO, i1, acc, C, L] → b ≠ G → s.heap.get? b = some o → h'.get? b = some o)) ?_ (cnt + 1)
    ⟨0, s.heap, s.toks, s.gens, [], m0, rfl, Nat.zero_le _, rfl, rfl, by intro i v e; simp at e, S, hC, hacc, F, ⟨rfl, fun _ _ => rfl⟩, fun _ _ _ _ e => e⟩
  rintro k s' ⟨i, h', tk, gens', ys, m', rfl, hi, rfl, hyl, hys, S', hC', hacc', F', ge, kp⟩
  have hl' : h'.NoLimit := T.nolimit.keeps F'.keep
  by_cases hlt : i < cnt
  · refine zipn_item D hh hl' hst (by omega) ⟨by simp, by simp, by simp⟩ aw wG S' hlt h5 fun y T1 h1 tk1 gens1 g1 cy gy yG yw z1 pp r1 Tn TG kp1 wx1 all Z1 => ?_
    obtain ⟨dy, hs, t1, t2, c1, c2, gdy, dyG, dyw⟩ := cy
    obtain ⟨t, p1, p2⟩ := pp
    have Tz : T1 ≠ z := fun e => by rw [e] at Tn; rw [show ({ s with heap := h', toks := tk, gens := gens' } : Shared).heap.get? z = _ from S'.hz] at Tn; cases Tn
    refine wpAny_letOwnedTupleGo_zip z1 fun h2 z2 hs2 => ?_
    have p3 : IsPair h2 T1 (.int i t) (.ref y) := hs2.extBut _ _ Tz p2
    refine assign_Tuple_tuple hh (items := #[.int i t, .ref y]) ⟨_, p3, rfl, _, rfl⟩ rfl rfl fun h3 he3 => ?_
    have he3' : ∀ b o, h2.get? b = some o → h3.get? b = some o := fun b o e => he3 b o (Nat.ne_of_lt (Heap.lt_size e)) e
    have hn3 : h3.Ns C m' := ((hC'.at' fun o e => all C o d1.1 d1.2.1 d1.2.2.1 hCG e).at' fun o e => hs2.extBut _ _ d1.1 e).at' fun o e => he3' _ o e
    refine assignInOrder_cons (wpAny_assign_Name (wpAny_storeName_local (env := compEnv (zcScope xk xo) C env) hk1 hn3 (fun h4 hn4 hs4 => ?_) rfl))
    refine assignInOrder_cons (wpAny_assign_Name (wpAny_storeName_local (env := compEnv (zcScope xk xo) C env) hk2 hn4 (fun h5' hn5 hs5 => ?_) rfl))
    refine assignInOrder_nil ?_
    have up5 : ∀ b o, b ≠ z → b ≠ C → h1.get? b = some o → h5'.get? b = some o := fun b o b1 b2 e => hs5.extBut b o b2 (hs4.extBut b o b2 (he3' b o (hs2.extBut b o b1 e)))
    have z5 : IsZip h5' z TI TO .none := hs5.extBut _ _ d1.1.symm (hs4.extBut _ _ d1.1.symm (he3' _ _ z2))
    have F5 : Fr g L h5' m := ⟨F'.ns.at' fun o e => up5 _ o d3.1 d1.2.2.2.2.symm (all _ o d3.1 d3.2.1 d3.2.2 hLG e), fun b o e => up5 b o (fun q => gne b o e (by simp [q])) (fun q => gne b o e (by simp [q])) (all b o (fun q => gne b o e (by simp [q])) (fun q => gne b o e (by simp [q])) (fun q => gne b o e (by simp [q])) (fun q => by rw [q, hG0] at e; cases e) (F'.keep b o e)), F'.above⟩
    have nz : y ≠ z := fun q => yw (by simp [q])
    have nC : y ≠ C := fun q => yw (by simp [q])
    have dz : dy ≠ z := fun q => dyw (by simp [q])
    have dC : dy ≠ C := fun q => dyw (by simp [q])
    have N5 : News g L h5' [(y, instObj 425 dy), (dy, cellD hs t1 t2 (xs i))] := fun q hq => by
      simp only [List.mem_cons, List.not_mem_nil, or_false] at hq
      rcases hq with rfl | rfl
      · exact ⟨up5 _ _ nz nC c1, fun q => yw (by rw [show y = L from q]; simp), gy⟩
      · exact ⟨up5 _ _ dz dC c2, fun q => dyw (by rw [show dy = L from q]; simp), gdy⟩
    refine helt _ _ y dy hs t1 t2 (xs i) _ _ F5 N5 hn5 (by simp) fun tk6 h6 tk6' K6 => ?_
    have a6 : h6.get? acc = some (lst ys) := K6 _ _ (up5 _ _ d2.1 d1.2.2.2.1.symm (all _ _ d2.1 d2.2.1 d2.2.2.1 haG hacc'))
    refine append_at (hsz := by show ys.toArray.size ≤ sizeLine; rw [List.size_toArray, hyl]; exact Nat.le_trans hi (Nat.le_trans (Nat.le_of_lt h5) (by decide))) a6 fun h7 hs7 a7 => ?_
    have up7 : ∀ b o, b ≠ z → b ≠ C → b ≠ acc → h1.get? b = some o → h7.get? b = some o := fun b o b1 b2 b3 e => hs7.extBut b o b3 (K6 _ _ (up5 b o b1 b2 e))
    have z7 : IsZip h7 z TI TO .none := hs7.extBut _ _ d2.1.symm (K6 _ _ z5)
    have kw7 : ∀ b o, b ∉ [z, TO, i1, acc, C, L] → h1.get? b = some o → h7.get? b = some o := fun b o hb e => up7 b o (fun q => hb (by simp [q])) (fun q => hb (by simp [q])) (fun q => hb (by simp [q])) e
    have C7 : h7.Ns C _ := (hn5.at' fun o e => K6 _ o e).at' fun o e => hs7.extBut _ o d1.2.2.2.1 e
    have F7 : Fr g L h7 m := ⟨(F5.ns.at' fun o e => K6 _ o e).at' fun o e => hs7.extBut _ o d2.2.2.2.symm e, fun b o e => hs7.extBut b o (fun q => gne b o e (by simp [q])) (K6 _ _ (F5.keep b o e)), F5.above⟩
    have TO7 : IsPair h7 TO (.int i t) (.ref y) := up7 _ _ D.TOz d1.2.1.symm d2.2.1.symm p1
    have r7 : IsRangeIter h7 i1 (i + 1) (5 - (i + 1)) 1 := up7 _ _ D.i1z d1.2.2.1.symm d2.2.2.1.symm r1
    have TI7 : IsPair h7 TI (.ref i1) (.ref a) := kw7 _ _ TIw (all _ _ D.TIz D.TITO D.TIi1 D.TIG S'.hTI)
    refine ⟨cnt + 1 - (i + 1), by omega, i + 1, h7, tk6', gens1, ys ++ [.int (xs i) tk6], _, rfl, hlt, rfl, by rw [List.length_append, List.length_singleton, hyl], fun j v e => ?_,
      ⟨z7, TI7, ⟨_, _, TO7⟩, by simpa using r7, Z1.keeps aw kw7, fun b hb => ?_⟩, C7, a7.trans (congrArg some (lst_snoc ys _)), F7, ge.trans g1, fun b o hb hG e => kw7 b o hb (all b o (fun q => hb (by simp [q])) (fun q => hb (by simp [q])) (fun q => hb (by simp [q])) hG (kp b o hb hG e))⟩
    · rcases Nat.lt_trichotomy j i with hj | hj | hj
      · exact hys j v (by rwa [List.getElem?_append_left (by omega)] at e)
      · subst hj
        rw [List.getElem?_append_right (by omega), hyl, Nat.sub_self] at e
        cases e; exact ⟨_, rfl⟩
      · rw [List.getElem?_eq_none (by rw [List.length_append, List.length_singleton]; omega)] at e; cases e
    · simp only [List.mem_cons, List.not_mem_nil, or_false] at hb
      rcases hb with rfl | rfl | rfl | rfl | rfl | rfl
      · exact ⟨_, z7⟩
      · exact ⟨_, TO7⟩
      · exact ⟨_, r7⟩
      · exact ⟨_, a7⟩
      · obtain ⟨o, _, _, ho, _⟩ := C7; exact ⟨o, ho⟩
      · obtain ⟨o, _, _, ho, _⟩ := F7.ns; exact ⟨o, ho⟩
  · obtain rfl : i = cnt := Nat.le_antisymm hi (Nat.not_lt.mp hlt)
    refine zipn_end D hh hl' hst (by omega) ⟨by simp, by simp, by simp⟩ aw wG S' h5 fun h1 tk1 gens1 g1 gf all => ?_
    refine hR h1 tk1 gens1 ys m' (ge.trans g1) gf hyl hys (all _ _ d2.1 d2.2.1 d2.2.2.1 haG hacc') (hC'.at' fun o e => all C o d1.1 d1.2.1 d1.2.2.1 hCG e) ⟨F'.ns.at' fun o e => all _ o d3.1 d3.2.1 d3.2.2 hLG e, fun b o e => ?_, F'.above⟩ fun b o hb hG e => all b o (fun q => hb (by simp [q])) (fun q => hb (by simp [q])) (fun q => hb (by simp [q])) hG (kp b o hb hG e)
    exact all b o (fun q => gne b o e (by simp [q])) (fun q => gne b o e (by simp [q])) (fun q => gne b o e (by simp [q])) (fun q => by rw [q, hG0] at e; cases e) (F'.keep b o e)
end
end Mine
end
-- part GZ4
namespace Mine
open PySem.W
theorem enterG {w : World} {A : Around} {s : Shared} {g : Heap} {mg mb : Str → Option Value} {p : Program} {loose : List Str}
    {Q : Value → Shared → Prop} {name qual : Str} {params : Arguments} {body : List Stmt} {scope : Scope} {dV kV doc pm cdv ct oc : Value} {an od : Option Addr} {osl : Array (Option Value)} {f : Addr} {args : List Value} {vs : List Value} {g₁ : Addr → Option (List (Str × Value))} {binds : Addr → List (Str × Value)}
    (G : Gd w mg mb p loose g) (hg : Keep g s.heap)
    (hl : (hd.heap_39 w.params).lookup f = some ⟨oc, od, .func (fnOf name qual params body scope dV kV doc pm an cdv ct), osl⟩) (hcd : codeIn (hd.heap_39 w.params) cdv qual = true) (hroom : A.depth < recursionLimit)
    (hp : peek1 (hd.heap_39 w.params) ⟨PR, w.params⟩ (bindArgs (fnOf name qual params body scope dV kV doc pm an cdv ct) ⟨args, []⟩) = some (tupO vs, g₁))
    (hgg : ∀ D, g₁ D = some (binds D)) (hloc : ∀ D, ∀ y ∈ binds D, scope.names.lookup y.1 = some .local)
    (h : ∀ D h' tk', D = s.heap.objs.size → Keep s.heap h' → h'.get? D = some (tupO vs) → h'.Ns (D + 1) (fun y => (binds D).reverse.lookup y) → h'.IsGen (D + 2) s.gens.size → h'.objs.size = D + 3 →
      Q (.ref (D + 2)) { s with heap := h', toks := tk', gens := s.gens.push (.fresh (.func body (envOf qual scope (D + 1) f cdv))) })
    (hco : scope.isCoroutine = false) (hgen : scope.isGenerator = true) (hk : scope.kind = .function)
    (hcell : ∀ x ∈ scope.names, x.2 ≠ .cell) : codeAny (model PR w) A (.call (.ref f) ⟨args, []⟩) (Ret Q) s := by
  have Xs := G.X.keeps hg
  refine codeAny_call_generator (fd := fnOf name qual params body scope dV kV doc pm an cdv ct) (body := body) hroom (Xs _ _ hl) rfl hco hgen rfl (codeRec_of Xs hcd) ?_
  refine wp_of_peekA (o := tupO vs) Xs (r := binds) ?_ _ g₁ hp hgg
  have kp : Keep s.heap (s.heap.push (tupO vs)) := fun b o e => Heap.get?_push_of_some _ e
  refine wpAny_newFunctionEnv (hcell) (hloc _) (fun h₁ hns hsb => ?_) hk
  have hk₁ : ∀ b o, (s.heap.push (tupO vs)).get? b = some o → h₁.get? b = some o := fun b o e => hsb.extBut b o (Nat.ne_of_lt (Heap.lt_size e)) (Heap.get?_push_of_some _ e)
  have sz : (s.heap.push (tupO vs)).objs.size = s.heap.objs.size + 1 := Heap.size_push ..
  have sz1 : h₁.objs.size = s.heap.objs.size + 2 := by rw [hsb.1, Heap.size_push, sz]
  refine ⟨(G.T.nolimit.keeps hg).keeps fun b o e => hk₁ b o (kp b o e), ?_⟩
  rw [sz1]
  show Q (.ref (s.heap.objs.size + 2)) { s with heap := h₁.push _, toks := _, gens := s.gens.push (.fresh (.func body (envOf qual scope (s.heap.push (tupO vs)).objs.size f cdv))) }
  rw [sz]
  refine h s.heap.objs.size _ _ rfl (fun b o e => Heap.get?_push_of_some _ (hk₁ b o (kp b o e))) (Heap.get?_push_of_some _ (hk₁ _ _ (Heap.get?_push_size _ rfl))) ?_ ?_ ?_
  · rw [sz] at hns
    exact hns.at' fun o e => Heap.get?_push_of_some _ e
  · have := Heap.get?_push_size (h := h₁) (o := { cls := .type "generator", data := .fields #[.int s.gens.size 0, .str (fnOf name qual params body scope dV kV doc pm an cdv ct).name (s.toks + (binds s.heap.objs.size).length), .str (fnOf name qual params body scope dV kV doc pm an cdv ct).qualname (s.toks + (binds s.heap.objs.size).length + 1)] }) rfl
    rw [sz1] at this
    exact ⟨_, _, _, this, rfl, rfl, rfl⟩
  · rw [Heap.size_push, sz1]

theorem call_zipg {prog : Program} {w : World} {A : Around} {E : Value → Shared → Prop} {s : Shared} {l1 a : Addr} {gi : Nat} {t u v : Tok} {Q : Value → Shared → Prop} (hl1 : IsRange s.heap l1 0 5 1 t u v) (hl2 : s.heap.IsGen a gi)
    (h : ∀ n h', n = s.heap.objs.size → IsZip h' (n + 3) (n + 1) (n + 2) .none → IsPair h' (n + 1) (.ref n) (.ref a) → IsPair h' (n + 2) .none .none → IsRangeIter h' n 0 5 1 → h'.objs.size = n + 4 → Keep s.heap h' → Q (.ref (n + 3)) { s with heap := h' }) :
    wpAny (model prog w) A (call (.type "zip") [.ref l1, .ref a]) Q E s := by
  refine callType_new F.called_zip (by decide) (F.typeCall_zip_2 _ _) (F.newCall_zip_2 _ _) (fun obj => F.args_object_init_3 obj _ _) F.entry_zip_new
    (meets_zip_rg l1 a gi t u v) ⟨hl1, hl2, ?_⟩
  have z1 : (zgH1 s.heap l1).objs.size = s.heap.objs.size + 1 := Heap.size_push ..
  have z2 : (zgH2 s.heap l1 a).objs.size = s.heap.objs.size + 2 := by rw [Heap.size_push, z1]
  have z3 : (zgH3 s.heap l1 a).objs.size = s.heap.objs.size + 3 := by rw [Heap.size_push, z2]
  have z4 : (zgH4 s.heap l1 a).objs.size = s.heap.objs.size + 4 := by rw [Heap.size_push, z3]
  have g4 : (zgH4 s.heap l1 a).get? (zgH3 s.heap l1 a).objs.size = some _ := Heap.get?_push_size _ rfl
  have g3 : (zgH4 s.heap l1 a).get? (zgH2 s.heap l1 a).objs.size = some _ := Heap.get?_push_of_some _ (Heap.get?_push_size _ rfl)
  have g2 : (zgH4 s.heap l1 a).get? (zgH1 s.heap l1).objs.size = some _ := Heap.get?_push_of_some _ (Heap.get?_push_of_some _ (Heap.get?_push_size _ rfl))
  have g1 : (zgH4 s.heap l1 a).get? s.heap.objs.size = some _ := Heap.get?_push_of_some _ (Heap.get?_push_of_some _ (Heap.get?_push_of_some _ (Heap.get?_push_size _ rfl)))
  show _ ∧ _
  rw [z1, z2, z3] at g4
  rw [z2] at g3
  rw [z1] at g2
  rw [z3]
  exact ⟨⟨_, g4, rfl⟩, h _ _ rfl g4 g2 g3 g1 z4 fun c o x =>
    Heap.get?_push_of_some _ (Heap.get?_push_of_some _ (Heap.get?_push_of_some _ (Heap.get?_push_of_some _ x)))⟩
end Mine
-- part L10
section
local macro_rules | `(tactic| walk_at "m_room") => `(tactic| ((try simp only [depth_in1, depth_deeper, Around.deeper, Around.mark, depth_under_make]); omega))
local macro_rules | `(tactic| walk_at "m_units") => `(tactic| ((try simp only [units_in1, units_deeper, Around.mark_units]); omega))
local macro_rules | `(tactic| k_units) => `(tactic| walk_at "m_units")
local macro_rules | `(tactic| k_room) => `(tactic| walk_at "m_room")
local macro_rules | `(tactic| walk_at "m_cell") => `(tactic| exact Mine.isCell_of (by k_asm) (by k_mem) (by k_mem))
local macro_rules | `(tactic| walk_at "m_end") => `(tactic| ((try dsimp only); refine' Mine.endK_ ?F ?N ?S ?_; (case F => k_asm); (case N => k_asm); (case S => k_sub)))
local macro_rules | `(tactic| walk_at "getMethod ref") => `(tactic| (k_here; (with_reducible show wpAny _ _ (getMethod (Value.ref _) (PySem.Str.ofString "__class__") _) _ _ _); k_dflt (refine' Mine.meth_class ?F ?X ?I ?_; (case F => k_asm); (case X => k_asm); (case I => k_inst); k_whole)))
local macro_rules | `(tactic| walk_at "eval Name") => `(tactic| (k_here; (with_reducible show wpAny _ _ (eval _ (envOf _ _ _ _ _)) _ _ _); k_dflt (refine' ld ?k1 ?k2 ?_; (case k1 => k_asm); (case k2 => exact rfl); k_whole)))
local macro_rules | `(tactic| walk_at "getMethod ref") => `(tactic| (k_here; k_dflt (refine' method_inst ?k1 ?k2 ?k3 ?k4 ?k5 ?k6 ?k7 ?_; (case k1 => k_asm); (case k2 => k_asm); (case k3 => k_inst); (case k4 => k_is); (case k5 => k_is); (case k6 => k_is); (case k7 => k_get); k_whole)))
local macro_rules | `(tactic| walk_at "callWith ref") => `(tactic| (k_here; (with_reducible show wpAny _ _ (PySem.callWith _ (Value.ref _) _ (backTo _ (starEach [] _)) []) _ _ _); k_dflt (refine' callWith_K0 ?k1 ?k2 ?_; (case k1 => k_in); (case k2 => k_is); k_whole)))
local macro_rules | `(tactic| walk_at "getAttr ref") => `(tactic| (k_here; k_dflt (refine' get_own ?k1 ?k2 ?k3 ?k4 ?k5 ?k6 ?k7 ?k8 ?k9 ?_; (case k1 => k_asm); (case k2 => k_asm); (case k3 => k_inst); (case k4 => k_is); (case k5 => k_is); (case k6 => k_is); (case k7 => k_is); (case k8 => k_get); (case k9 => k_handed); k_whole)))
local macro_rules | `(tactic| walk_at "binaryOp Pow int int") => `(tactic| (k_here; (with_reducible refine pow_int_small ?a ?b ?c ?_); (case a => omega); (case b => omega); (case c => first | decide | omega)))
local macro_rules | `(tactic| walk_at "binaryOp LShift int int") => `(tactic| (k_here; (with_reducible refine lshift_int_small ?a ?b ?c ?_); (case a => omega); (case b => omega); (case c => first | decide | omega)))
local macro_rules | `(tactic| walk_at "call ref") => `(tactic| (k_here; (with_reducible show wpAny _ _ (call (Value.ref 425) _ _) _ _ _); refine' Mine.use_cell (f := 425) ?c (Mine.ct_mk _ _ _ ?v0 ?v1) ?F ?X ?N ?T ?P ?A ?U ?_; (case c => (refine' Mine.calls_of rfl ?e1; (case e1 => exact rfl))); (case F => k_asm); (case X => k_asm); (case N => k_asm); (case T => k_asm); (case P => trivial); (case v0 => first | assumption | omega); (case v1 => first | assumption | omega); (case A => walk_at "m_room"); (case U => walk_at "m_units"); k_whole; intro y' dy' hs' tk1' tn' h' tk'' F' N' O'; (try k_sweep); (try dsimp only)))
local macro_rules | `(tactic| walk_at "call ref") => `(tactic| (k_here; (with_reducible show wpAny _ _ (call (Value.ref 194) _ _) _ _ _); refine' Mine.use_int (f := 194) ?c (Mine.ct_id _ _ _) ?F ?X ?N ?T ?P ?A ?U ?_; (case c => (refine' Mine.calls_of rfl ?e1; (case e1 => exact rfl))); (case F => k_asm); (case X => k_asm); (case N => k_asm); (case T => k_asm); (case P => walk_at "m_cell"); (case A => walk_at "m_room"); (case U => walk_at "m_units"); k_whole; intro tk' h' tk'' F' N'; (try k_sweep); (try dsimp only)))
local macro_rules | `(tactic| walk_at "call ref") => `(tactic| (k_here; (with_reducible show wpAny _ _ (call (Value.ref 208) _ _) _ _ _); refine' Mine.use_int (f := 208) ?c (Mine.ct_lsb _ _ _) ?F ?X ?N ?T ?P ?A ?U ?_; (case c => (refine' Mine.calls_of rfl ?e1; (case e1 => exact rfl))); (case F => k_asm); (case X => k_asm); (case N => k_asm); (case T => k_asm); (case P => walk_at "m_cell"); (case A => walk_at "m_room"); (case U => walk_at "m_units"); k_whole; intro tk' h' tk'' F' N'; (try k_sweep); (try dsimp only)))
local macro_rules | `(tactic| walk_at "call ref") => `(tactic| (k_here; (with_reducible show wpAny _ _ (call (Value.ref 215) _ _) _ _ _); refine' Mine.use_int (f := 215) ?c (Mine.ct_face _ _ _) ?F ?X ?N ?T ?P ?A ?U ?_; (case c => (refine' Mine.calls_of rfl ?e1; (case e1 => exact rfl))); (case F => k_asm); (case X => k_asm); (case N => k_asm); (case T => k_asm); (case P => walk_at "m_cell"); (case A => walk_at "m_room"); (case U => walk_at "m_units"); k_whole; intro tk' h' tk'' F' N'; (try k_sweep); (try dsimp only)))
local macro_rules | `(tactic| walk_at "call ref") => `(tactic| (k_here; (with_reducible show wpAny _ _ (call (Value.ref 222) _ _) _ _ _); refine' Mine.use_int (f := 222) ?c (Mine.ct_pos _ _ _) ?F ?X ?N ?T ?P ?A ?U ?_; (case c => (refine' Mine.calls_of rfl ?e1; (case e1 => exact rfl))); (case F => k_asm); (case X => k_asm); (case N => k_asm); (case T => k_asm); (case P => walk_at "m_cell"); (case A => walk_at "m_room"); (case U => walk_at "m_units"); k_whole; intro tk' h' tk'' F' N'; (try k_sweep); (try dsimp only)))
local macro_rules | `(tactic| walk_at "call ref") => `(tactic| (k_here; (with_reducible show wpAny _ _ (call (Value.ref 229) _ _) _ _ _); refine' Mine.use_bool (f := 229) ?c (Mine.ct_is_leaf _ _ _) ?F ?X ?N ?T ?P ?A ?U ?_; (case c => (refine' Mine.calls_of rfl ?e1; (case e1 => exact rfl))); (case F => k_asm); (case X => k_asm); (case N => k_asm); (case T => k_asm); (case P => walk_at "m_cell"); (case A => walk_at "m_room"); (case U => walk_at "m_units"); k_whole; intro h' tk'' F' N'; (try dsimp only [PySem.W.CmpBack]); (try k_sweep); (try dsimp only)))
local macro_rules | `(tactic| walk_at "call ref") => `(tactic| (k_here; (with_reducible show wpAny _ _ (call (Value.ref 149) _ _) _ _ _); refine' Mine.use_int (f := 149) ?c (Mine.ct_lsbl _ _ _ ?v0 ?v1) ?F ?X ?N ?T ?P ?A ?U ?_; (case c => (refine' Mine.calls_of rfl ?e1; (case e1 => exact rfl))); (case F => k_asm); (case X => k_asm); (case N => k_asm); (case T => k_asm); (case P => trivial); (case v0 => first | assumption | omega); (case v1 => first | assumption | omega); (case A => walk_at "m_room"); (case U => walk_at "m_units"); k_whole; intro tk' h' tk'' F' N'; (try k_sweep); (try dsimp only)))
local macro_rules | `(tactic| walk_at "call ref") => `(tactic| (k_here; (with_reducible show wpAny _ _ (call (Value.ref _) _ _) _ _ _); refine' Mine.use_int (f := 149) ?c (Mine.ct_lsbl _ _ _ ?v0 ?v1) ?F ?X ?N ?T ?P ?A ?U ?_; (case c => (refine' Mine.calls_meth' ?q2 ?N2 rfl ?e2; (case N2 => k_asm); (case q2 => k_mem); (case e2 => exact rfl))); (case F => k_asm); (case X => k_asm); (case N => k_asm); (case T => k_asm); (case P => trivial); (case v0 => first | assumption | omega); (case v1 => first | assumption | omega); (case A => walk_at "m_room"); (case U => walk_at "m_units"); k_whole; intro tk' h' tk'' F' N'; (try k_sweep); (try dsimp only)))
local macro_rules | `(tactic| walk_at "call ref") => `(tactic| (k_here; (with_reducible show wpAny _ _ (call (Value.ref 187) _ _) _ _ _); refine' Mine.use_bool (f := 187) ?c (Mine.ct_is_face _ _ _) ?F ?X ?N ?T ?P ?A ?U ?_; (case c => (refine' Mine.calls_of rfl ?e1; (case e1 => exact rfl))); (case F => k_asm); (case X => k_asm); (case N => k_asm); (case T => k_asm); (case P => walk_at "m_cell"); (case A => walk_at "m_room"); (case U => walk_at "m_units"); k_whole; intro h' tk'' F' N'; (try dsimp only [PySem.W.CmpBack]); (try k_sweep); (try dsimp only)))
local macro_rules | `(tactic| walk_at "call ref") => `(tactic| (k_here; (with_reducible show wpAny _ _ (call (Value.ref 201) _ _) _ _ _); refine' Mine.use_bool (f := 201) ?c (Mine.ct_is_valid _ _ _ ?v0) ?F ?X ?N ?T ?P ?A ?U ?_; (case c => (refine' Mine.calls_of rfl ?e1; (case e1 => exact rfl))); (case F => k_asm); (case X => k_asm); (case N => k_asm); (case T => k_asm); (case P => walk_at "m_cell"); (case v0 => first | assumption | omega); (case A => walk_at "m_room"); (case U => walk_at "m_units"); k_whole; intro h' tk'' F' N'; (try dsimp only [PySem.W.CmpBack]); (try k_sweep); (try dsimp only)))
local macro_rules | `(tactic| walk_at "call ref") => `(tactic| (k_here; (with_reducible show wpAny _ _ (call (Value.ref 278) _ _) _ _ _); refine' Mine.use_cell (f := 278) ?c (Mine.ct_range_min _ _ _ ?v0) ?F ?X ?N ?T ?P ?A ?U ?_; (case c => (refine' Mine.calls_of rfl ?e1; (case e1 => exact rfl))); (case F => k_asm); (case X => k_asm); (case N => k_asm); (case T => k_asm); (case P => walk_at "m_cell"); (case v0 => first | assumption | omega); (case A => walk_at "m_room"); (case U => walk_at "m_units"); k_whole; intro y' dy' hs' tk1' tn' h' tk'' F' N' O'; (try k_sweep); (try dsimp only)))
local macro_rules | `(tactic| walk_at "call ref") => `(tactic| (k_here; (with_reducible show wpAny _ _ (call (Value.ref 285) _ _) _ _ _); refine' Mine.use_cell (f := 285) ?c (Mine.ct_range_max _ _ _ ?v0) ?F ?X ?N ?T ?P ?A ?U ?_; (case c => (refine' Mine.calls_of rfl ?e1; (case e1 => exact rfl))); (case F => k_asm); (case X => k_asm); (case N => k_asm); (case T => k_asm); (case P => walk_at "m_cell"); (case v0 => first | assumption | omega); (case A => walk_at "m_room"); (case U => walk_at "m_units"); k_whole; intro y' dy' hs' tk1' tn' h' tk'' F' N' O'; (try k_sweep); (try dsimp only)))
local macro_rules | `(tactic| walk_at "call ref") => `(tactic| (k_here; (with_reducible show wpAny _ _ (call (Value.ref 71) _ _) _ _ _); refine' Mine.use_bool (f := 71) ?c (Mine.ct_lt _ _ _ _ _) ?F ?X ?N ?T ?P ?A ?U ?_; (case c => (refine' Mine.calls_of rfl ?e1; (case e1 => exact rfl))); (case F => k_asm); (case X => k_asm); (case N => k_asm); (case T => k_asm); (case P => exact ⟨by walk_at "m_cell", by walk_at "m_cell"⟩); (case A => walk_at "m_room"); (case U => walk_at "m_units"); k_whole; intro h' tk'' F' N'; (try dsimp only [PySem.W.CmpBack]); (try k_sweep); (try dsimp only)))
local macro_rules | `(tactic| walk_at "call ref") => `(tactic| (k_here; (with_reducible show wpAny _ _ (call (Value.ref 92) _ _) _ _ _); refine' Mine.use_bool (f := 92) ?c (Mine.ct_ge _ _ _ _ _) ?F ?X ?N ?T ?P ?A ?U ?_; (case c => (refine' Mine.calls_of rfl ?e1; (case e1 => exact rfl))); (case F => k_asm); (case X => k_asm); (case N => k_asm); (case T => k_asm); (case P => exact ⟨by walk_at "m_cell", by walk_at "m_cell"⟩); (case A => walk_at "m_room"); (case U => walk_at "m_units"); k_whole; intro h' tk'' F' N'; (try dsimp only [PySem.W.CmpBack]); (try k_sweep); (try dsimp only)))
local macro_rules | `(tactic| walk_at "call ref") => `(tactic| (k_here; (with_reducible show wpAny _ _ (call (Value.ref 57) _ _) _ _ _); refine' Mine.use_bool (f := 57) ?c (Mine.ct_eq _ _ _ _ _) ?F ?X ?N ?T ?P ?A ?U ?_; (case c => (refine' Mine.calls_of rfl ?e1; (case e1 => exact rfl))); (case F => k_asm); (case X => k_asm); (case N => k_asm); (case T => k_asm); (case P => exact ⟨by walk_at "m_cell", by walk_at "m_cell"⟩); (case A => walk_at "m_room"); (case U => walk_at "m_units"); k_whole; intro h' tk'' F' N'; (try dsimp only [PySem.W.CmpBack]); (try k_sweep); (try dsimp only)))
local macro_rules | `(tactic| walk_at "call ref") => `(tactic| (k_here; (with_reducible show wpAny _ _ (call (Value.ref 78) _ _) _ _ _); refine' Mine.use_bool (f := 78) ?c (Mine.ct_le _ _ _ _ _) ?F ?X ?N ?T ?P ?A ?U ?_; (case c => (refine' Mine.calls_of rfl ?e1; (case e1 => exact rfl))); (case F => k_asm); (case X => k_asm); (case N => k_asm); (case T => k_asm); (case P => exact ⟨by walk_at "m_cell", by walk_at "m_cell"⟩); (case A => walk_at "m_room"); (case U => walk_at "m_units"); k_whole; intro h' tk'' F' N'; (try dsimp only [PySem.W.CmpBack]); (try k_sweep); (try dsimp only)))
local macro_rules | `(tactic| walk_at "call ref") => `(tactic| (k_here; (with_reducible show wpAny _ _ (call (Value.ref 64) _ _) _ _ _); refine' Mine.use_bool (f := 64) ?c (Mine.ct_ne _ _ _ _ _) ?F ?X ?N ?T ?P ?A ?U ?_; (case c => (refine' Mine.calls_of rfl ?e1; (case e1 => exact rfl))); (case F => k_asm); (case X => k_asm); (case N => k_asm); (case T => k_asm); (case P => exact ⟨by walk_at "m_cell", by walk_at "m_cell"⟩); (case A => walk_at "m_room"); (case U => walk_at "m_units"); k_whole; intro h' tk'' F' N'; (try dsimp only [PySem.W.CmpBack]); (try k_sweep); (try dsimp only)))
local macro_rules | `(tactic| walk_at "call ref") => `(tactic| (k_here; (with_reducible show wpAny _ _ (call (Value.ref 236) _ _) _ _ _); refine' Mine.use_int (f := 236) ?c (Mine.ct_level _ _ _ _ ?v0) ?F ?X ?N ?T ?P ?A ?U ?_; (case c => (refine' Mine.calls_of rfl ?e1; (case e1 => exact rfl))); (case F => k_asm); (case X => k_asm); (case N => k_asm); (case T => k_asm); (case P => walk_at "m_cell"); (case v0 => first | assumption | omega); (case A => walk_at "m_room"); (case U => walk_at "m_units"); k_whole; intro tk' h' tk'' F' N'; (try k_sweep); (try dsimp only)))
local macro_rules | `(tactic| walk_at "call ref") => `(tactic| (k_here; (with_reducible show wpAny _ _ (call (Value.ref 173) _ _) _ _ _); refine' Mine.use_bool (f := 173) ?c (Mine.ct_contains _ _ _ _ _ ?v0 ?v1) ?F ?X ?N ?T ?P ?A ?U ?_; (case c => (refine' Mine.calls_of rfl ?e1; (case e1 => exact rfl))); (case F => k_asm); (case X => k_asm); (case N => k_asm); (case T => k_asm); (case P => exact ⟨by walk_at "m_cell", by walk_at "m_cell"⟩); (case v0 => first | assumption | omega); (case v1 => first | assumption | omega); (case A => walk_at "m_room"); (case U => walk_at "m_units"); k_whole; intro h' tk'' F' N'; (try dsimp only [PySem.W.CmpBack]); (try k_sweep); (try dsimp only)))
local macro_rules | `(tactic| walk_at "call ref") => `(tactic| (k_here; (with_reducible show wpAny _ _ (call (Value.ref 180) _ _) _ _ _); refine' Mine.use_bool (f := 180) ?c (Mine.ct_intersects _ _ _ _ _ ?v0 ?v1) ?F ?X ?N ?T ?P ?A ?U ?_; (case c => (refine' Mine.calls_of rfl ?e1; (case e1 => exact rfl))); (case F => k_asm); (case X => k_asm); (case N => k_asm); (case T => k_asm); (case P => exact ⟨by walk_at "m_cell", by walk_at "m_cell"⟩); (case v0 => first | assumption | omega); (case v1 => first | assumption | omega); (case A => walk_at "m_room"); (case U => walk_at "m_units"); k_whole; intro h' tk'' F' N'; (try dsimp only [PySem.W.CmpBack]); (try k_sweep); (try dsimp only)))
local macro_rules | `(tactic| walk_at "call ref") => `(tactic| (k_here; (with_reducible show wpAny _ _ (call (Value.ref 159) _ _) _ _ _); refine' Mine.use_cell (f := 159) ?c (Mine.ct_parent1 _ _ _ _ _ _ ?v0 ?v1 ?v2 ?v3 ?v4 ?v5 ?v6) ?F ?X ?N ?T ?P ?A ?U ?_; (case c => (refine' Mine.calls_of rfl ?e1; (case e1 => exact rfl))); (case F => k_asm); (case X => k_asm); (case N => k_asm); (case T => k_asm); (case P => walk_at "m_cell"); (case v0 => first | assumption | omega); (case v1 => first | assumption | omega); (case v2 => first | assumption | omega); (case v3 => first | assumption | omega); (case v4 => first | assumption | omega); (case v5 => first | assumption | omega); (case v6 => first | assumption | omega); (case A => walk_at "m_room"); (case U => walk_at "m_units"); k_whole; intro y' dy' hs' tk1' tn' h' tk'' F' N' O'; (try k_sweep); (try dsimp only)))
local macro_rules | `(tactic| k_ne) => `(tactic| first | ((refine' Mine.off_a ?o ?m); (case o => with_reducible assumption); (case m => k_mem)) | ((refine' Mine.off_b ?o ?m); (case o => with_reducible assumption); (case m => k_mem)))
local macro_rules | `(tactic| walk_at "call ref") => `(tactic| (k_here; (with_reducible show wpAny _ _ (call (Value.ref 436) _ _) _ _ _); refine' Mine.use_int (f := 436) ?c (Mine.ct_law_id _ _ _ _ _ ?v0 ?v1 ?v2 ?v3) ?F ?X ?N ?T ?P ?A ?U ?_; (case c => (refine' Mine.calls_of rfl ?e1; (case e1 => exact rfl))); (case F => k_asm); (case X => k_asm); (case N => k_asm); (case T => k_asm); (case P => trivial); (case v0 => first | assumption | omega); (case v1 => first | assumption | omega); (case v2 => first | assumption | omega); (case v3 => first | assumption | omega); (case A => walk_at "m_room"); (case U => walk_at "m_units"); k_whole; intro tk' h' tk'' F' N'; (try k_sweep); (try dsimp only)))
local macro_rules | `(tactic| walk_at "execs cons") => `(tactic| (k_here; refine wpAny_execs_cons ?_))
local macro_rules | `(tactic| walk_at "execs nil") => `(tactic| (k_here; refine wpAny_execs_nil ?_))
namespace Mine
open PySem.W
def ifT : Stmt → PySem.Expr
  | .If t _ _ _ => t
  | _ => default
def boV : PySem.Expr → List PySem.Expr
  | .BoolOp _ vs _ => vs
  | _ => []
def cmpL : PySem.Expr → PySem.Expr
  | .Compare l _ _ _ => l
  | _ => default
def forB : Stmt → List Stmt
  | .For _ _ b _ _ => b
  | _ => []
def lcI : PySem.Expr → PySem.Expr
  | .ListComp _ [⟨_, it, _, _⟩] _ _ => it
  | _ => default
def lcE : PySem.Expr → PySem.Expr
  | .ListComp e _ _ _ => e
  | _ => default
def ifB' : Stmt → List Stmt
  | .If _ b _ _ => b
  | _ => []
theorem apart (D L : Nat) (h : L < D) : (D + 2 ∉ [D + 3 + 3, D + 3 + 2, D + 3, D + 3 + 4, D + 3 + 4 + 1, L]) ∧ (D + 1 ∉ [D + 3 + 3, D + 3 + 2, D + 3, D + 3 + 4, D + 3 + 4 + 1, L]) ∧ (D + 3 + 1 ∉ [D + 3 + 3, D + 3 + 2, D + 3, D + 3 + 4, D + 3 + 4 + 1, L]) := by
  refine ⟨?_, ?_, ?_⟩ <;> (intro hm; simp only [List.mem_cons, List.not_mem_nil, or_false] at hm; omega)
theorem apart_old (D L x : Nat) (hx : x ≤ D) (hL : x ≠ L) : x ∉ [D + 3 + 3, D + 3 + 2, D + 3, D + 3 + 4, D + 3 + 4 + 1, L] := by
  intro hm; simp only [List.mem_cons, List.not_mem_nil, or_false] at hm; omega
theorem apart_d (D L : Nat) (h : L < D) : (D + 3 + 4 + 1 ≠ D + 3 + 3 ∧ D + 3 + 4 + 1 ≠ D + 3 + 2 ∧ D + 3 + 4 + 1 ≠ D + 3 ∧ D + 3 + 4 + 1 ≠ D + 3 + 4 ∧ D + 3 + 4 + 1 ≠ L) ∧ (D + 3 + 4 ≠ D + 3 + 3 ∧ D + 3 + 4 ≠ D + 3 + 2 ∧ D + 3 + 4 ≠ D + 3 ∧ D + 3 + 4 ≠ L) ∧ (L ≠ D + 3 + 3 ∧ L ≠ D + 3 + 2 ∧ L ≠ D + 3) := by omega
theorem zpart (D : Nat) : ZPart (D + 3 + 3) (D + 3 + 1) (D + 3 + 2) (D + 3) (D + 2) (D + 1) := by
  constructor <;> (intro h; have h' := (show (_ : Nat) = _ from h); omega)
theorem in_wr {D L b n : Nat} (hn : n ≤ D) (hb : b ∈ [D + 3 + 3, D + 3 + 2, D + 3, D + 3 + 4, D + 3 + 4 + 1, L]) : n ≤ b ∨ b = L := by
  simp only [List.mem_cons, List.not_mem_nil, or_false] at hb; omega
theorem lt7 (D : Nat) : D < D + 3 + 4 := by omega
theorem lt8' (D : Nat) : D < D + 3 + 4 + 1 := by omega
theorem lk_eq (x D : Addr) (y : Str) : List.lookup y [(PySem.Str.ofString "self", Value.ref x), (PySem.Str.ofString "args", Value.ref D)].reverse = mC x D none none y := by
  by_cases h1 : y = PySem.Str.ofString "args"
  · subst h1; rfl
  · by_cases h2 : y = PySem.Str.ofString "self"
    · subst h2; rfl
    · have e1 : (y == PySem.Str.ofString "args") = false := by simpa using h1
      have e2 : (y == PySem.Str.ofString "self") = false := by simpa using h2
      have z : List.lookup y [(PySem.Str.ofString "self", Value.ref x), (PySem.Str.ofString "args", Value.ref D)].reverse = none := by
        show List.lookup y [(PySem.Str.ofString "args", Value.ref D), (PySem.Str.ofString "self", Value.ref x)] = none
        simp only [List.lookup, e1, e2]
      rw [z]
      dsimp only [mC]
      rw [if_neg h1, if_neg h2]
      split
      · rfl
      · split <;> rfl
theorem allBare_gen {g g' : Array GenState} {c : Code} (h : AllBare g) (x : GenOnly g.size (g.push (.fresh c)) g') (hf : g'[g.size]? = some .finished) : AllBare g' := by
  intro y hy
  obtain ⟨i, hi, rfl⟩ := Array.mem_iff_getElem.mp hy
  by_cases e : i = g.size
  · subst e
    rw [Array.getElem?_eq_getElem hi] at hf
    cases hf' : g'[g.size] with
    | finished => rfl
    | _ => rw [hf'] at hf; cases hf
  · have h1 := x.2 i e
    rw [Array.getElem?_eq_getElem hi] at h1
    have h2 : i < g.size := by
      have := x.1
      rw [Array.size_push] at this
      omega
    rw [Array.getElem?_push_lt h2] at h1
    have h3 : g'[i] = g[i] := by simpa using h1
    rw [h3]
    exact h _ (Array.getElem_mem h2)
def z17 : PySem.Expr := cmpL ((boV (ifT ((ifB' (st 17)).getD 1 default))).getD 1 default)
def z18 : PySem.Expr := cmpL (ifT ((forB (st 18)).getD 0 default))
end Mine
namespace Mine
open PySem.W
section
variable {w : World} {s : Shared} {h₀ : Heap} {mg mb : Str → Option Value} {p : Program} {loose : List Str} {Q : Value → Shared → Prop} {E : Value → Shared → Prop} {P : LP} {fv : Option Value} {o6 : Obj} {rest : List (Addr × Obj)}
theorem zit17 {rest : List (Addr × Obj)} (F : Fr h₀ P.L s.heap (mF P fv)) (N : News h₀ P.L s.heap ((P.L + 5, P.o5) :: (P.y1, instObj 425 P.dy1) :: (P.dy1, cellD P.h1 P.ta P.tb P.n) :: rest)) (X : (hd.heap_39 w.params).In h₀) (T : TopRead p loose mg mb h₀) (d5 : P.o5.data = .cell (some (.ref P.y1))) 
    (h : ∀ t u v h' tk', IsRange h' s.heap.objs.size 0 5 1 t u v → Fr h₀ P.L h' (mF P fv) → Keep s.heap h' → wpAny (model PR w) (lawA P.L P.a P.cd) (call (.ref 271) (.ref P.y1 :: [])) (fun v s₁ => wpAny (model PR w) (lawA P.L P.a P.cd) (call (.type "zip") [.ref s.heap.objs.size, v]) Q E s₁) E { s with heap := h', toks := tk' }) :
    wpAny (model PR w) (lawA P.L P.a P.cd) (eval (lcI z17) (lawEnv P.L P.a P.cd)) Q E s := by
  have hA := lawA_d P.L P.a P.cd
  have hu := lawA_u P.L P.a P.cd
  unfold lawEnv
  refine eval_is (e' := ?stx) ?e ?_
  case e => conv => lhs; whnf
  k_steps
  refine wpAny_mono (h _ _ _ _ _ (by assumption) (by k_asm) (by assumption)) (fun v s1 h1 => args_nil h1) (fun _ _ e => e)
theorem zc17 {xs : Nat → Int} {cnt : Nat} {rest : List (Addr × Obj)} (F : Fr h₀ P.L s.heap (mF P fv)) (N : News h₀ P.L s.heap ((P.L + 5, P.o5) :: (P.y1, instObj 425 P.dy1) :: (P.dy1, cellD P.h1 P.ta P.tb P.n) :: rest)) (X : (hd.heap_39 w.params).In h₀) (T : TopRead p loose mg mb h₀) (d5 : P.o5.data = .cell (some (.ref P.y1))) 
    (h5 : cnt < 5) (hne : ∀ i, i < cnt → xs i ≠ xs cnt) (hx : ∀ i, i < cnt → ∀ a, Ct w 4 264 [.ref a] (fun g h => IsCell g h a (xs i)) (fun h h' v => NewC h h' v (xs (i + 1))))
    (hb : Ct w 6 243 (.ref P.y1 :: []) (fun g h => IsCell g h P.y1 P.n) (fun h h' v => NewC h h' v (xs 0))) (he : Ct w 6 250 (.ref P.y1 :: []) (fun g h => IsCell g h P.y1 P.n) (fun h h' v => NewC h h' v (xs cnt)))
    (h : ∀ (D : Addr) h' tk' gens' ys, (AllBare s.gens → AllBare gens') → ys.length = cnt → (∀ i v, ys[i]? = some v → ∃ t, v = Value.int (xs i) t) → Fr h₀ P.L h' (mF P fv) → (∀ b o, b ≠ P.L → s.heap.get? b = some o → h'.get? b = some o) → h'.get? D = some (LCg.lst ys) → s.heap.objs.size < D → Q (.ref D) { s with heap := h', toks := tk', gens := gens' }) :
    wpAny (model PR w) (lawA P.L P.a P.cd) (eval z17 (lawEnv P.L P.a P.cd)) Q E s := by
  have hA := lawA_d P.L P.a P.cd
  have hu := lawA_u P.L P.a P.cd
  refine eval_is (e' := ?stx) ?e ?_
  case e => conv => lhs; whnf
  refine wpAny_ListComp (scope := zcScope (PySem.Str.ofString "k") (PySem.Str.ofString "one")) (by decide) rfl (by decide) ?_ (by intro _; rfl)
  show wpAny _ _ (eval (lcI z17) (lawEnv P.L P.a P.cd)) _ _ _
  refine zit17 F N X T d5 fun t u v h1 tk1 hr F1 K1 => ?_
  have fresh : ∀ b, s.heap.objs.size ≤ b → h₀.get? b = none := fun b hb => by
    cases e : h₀.get? b with
    | none => rfl
    | some o => exact absurd (Heap.lt_size (F.keep b o e)) (Nat.not_lt.mpr hb)
  refine ret_call ?_
  refine' enterG (vs := []) (binds := fun D => [(PySem.Str.ofString "self", .ref P.y1), (PySem.Str.ofString "args", .ref D)]) ⟨X, T⟩ F1.keep ?k6 ?k7 ?k8 ?kP ?kG ?kB ?_ ?c2 ?c3 ?c4 ?c5
  case k6 => k_is
  case k7 => k_is
  case k8 => walk_at "m_room"
  case kP => exact rfl
  case kG => intro D; exact rfl
  case kB => intro D; exact locs rfl
  case c5 => decide
  case c2 => exact rfl
  case c3 => exact rfl
  case c4 => exact rfl
  intro D h2 tk2 eD K2 hD hNs hGen hsz
  dsimp only at eD K2 hGen
  have hrD : s.heap.objs.size < D := by rw [eD]; exact Heap.lt_size hr
  have hLs : P.L < s.heap.objs.size := F.ns.lt
  refine call_zipg (t := t) (u := u) (v := v) (K2 _ _ hr) hGen fun n h3 en hz hTI hTO hi1 hsz3 K3 => ?_
  dsimp only at en K3
  rw [hsz] at en
  subst en
  refine wpAny_pyIter_zip hz ?_
  refine wpAny_newObj_type (wpAny_newFunctionEnv (by decide) (by intro y hy; simp at hy) (fun h4 hns4 hsb4 => ?_) rfl)
  simp only [Heap.size_push, hsz3] at hns4 hsb4 ⊢
  have hLD : P.L < D := Nat.lt_trans hLs hrD
  have lt8 : ∀ b o, h3.get? b = some o → b < D + 3 + 4 := fun b o e => hsz3 ▸ Heap.lt_size e
  have k4 : Keep h3 h4 := fun b o e => hsb4.extBut b o (Nat.ne_of_lt (Nat.lt_succ_of_lt (lt8 b o e))) (Heap.get?_push_of_some _ (Heap.get?_push_of_some _ e))
  have hacc4 : h4.get? (D + 3 + 4) = some (LCg.lst []) := hsb4.extBut _ _ (Nat.ne_of_lt (Nat.lt_succ_self _)) (Heap.get?_push_of_some _ (by have := Heap.get?_push_size (h := h3) (o := LCg.lst []) rfl; rw [hsz3] at this; exact this))
  have F4 : Fr h₀ P.L h4 (mF P fv) := F1.keeps fun b o e => k4 _ _ (K3 _ _ (K2 _ _ e))
  have KS : Keep s.heap h4 := fun b o e => k4 _ _ (K3 _ _ (K2 _ _ (K1 _ _ e)))
  obtain ⟨ap1, ap2, ap3⟩ := apart D P.L hLD
  obtain ⟨ad1, ad2, ad3⟩ := apart_d D P.L hLD
  have wg : ∀ b ∈ [D + 3 + 3, D + 3 + 2, D + 3, D + 3 + 4, D + 3 + 4 + 1, P.L], h₀.get? b = none := fun b hb => by
    rcases in_wr (n := s.heap.objs.size) (Nat.le_of_lt hrD) hb with hb | hb
    · exact fresh b hb
    · rw [hb]; exact Heap.get?_none_of_le F.above
  have N1 : ∀ q ∈ [(P.y1, instObj 425 P.dy1), (P.dy1, cellD P.h1 P.ta P.tb P.n)], s.heap.get? q.1 = some q.2 ∧ q.1 ≠ P.L ∧ h₀.get? q.1 = none := fun q hq => N q (by
    simp only [List.mem_cons, List.not_mem_nil, or_false] at hq
    rcases hq with rfl | rfl <;> simp)
  have Ny := N1 (P.y1, instObj 425 P.dy1) (by simp)
  have Nd := N1 (P.dy1, cellD P.h1 P.ta P.tb P.n) (by simp)
  have wy : P.y1 ∉ [D + 3 + 3, D + 3 + 2, D + 3, D + 3 + 4, D + 3 + 4 + 1, P.L] := apart_old D P.L P.y1 (Nat.le_of_lt (Nat.lt_trans (Heap.lt_size Ny.1) hrD)) Ny.2.1
  have wd : P.dy1 ∉ [D + 3 + 3, D + 3 + 2, D + 3, D + 3 + 4, D + 3 + 4 + 1, P.L] := apart_old D P.L P.dy1 (Nat.le_of_lt (Nat.lt_trans (Heap.lt_size Nd.1) hrD)) Nd.2.1
  have wD : D ∉ [D + 3 + 3, D + 3 + 2, D + 3, D + 3 + 4, D + 3 + 4 + 1, P.L] := apart_old D P.L D (Nat.le_refl _) (Nat.ne_of_gt hLD)
  have hz4 := k4 _ _ hz
  have wx4 : ∀ b ∈ [D + 3 + 3, D + 3 + 2, D + 3, D + 3 + 4, D + 3 + 4 + 1, P.L], ∃ o, h4.get? b = some o := fun b hb => by
    simp only [List.mem_cons, List.not_mem_nil, or_false] at hb
    rcases hb with rfl | rfl | rfl | rfl | rfl | rfl
    · exact ⟨_, hz4⟩
    · exact ⟨_, k4 _ _ hTO⟩
    · exact ⟨_, k4 _ _ hi1⟩
    · exact ⟨_, hacc4⟩
    · obtain ⟨o, _, _, ho, _⟩ := hns4; exact ⟨o, ho⟩
    · obtain ⟨o, _, _, ho, _⟩ := F4.ns; exact ⟨o, ho⟩
  have Gn4 : h4.IsGen (D + 2) s.gens.size := hGen.keeps fun b o e => k4 _ _ (K3 _ _ e)
  refine codeAny_compStart_list ?l1 (wpAny_pyIter_zip hz4 ?l2)
  all_goals (
    refine zc_loop (env := lawEnv P.L P.a P.cd) (C := D + 3 + 4 + 1) (G := D + 1) (xs := xs) (cnt := cnt) (a := D + 2) (TI := D + 3 + 1) (TO := D + 3 + 2) (i1 := D + 3) (gi := s.gens.size) (by decide) (fresh _ (Nat.le_of_lt (Nat.lt_succ_of_lt hrD))) (by decide) (by decide) X T (by show 301 + 1 + 60 < 1000; decide) (by show 4 + 3 + 300 < 9900; decide) (lawA_h _ _ _) (zpart D) wg ap1 ap2 ap3 ad1 ad2 ad3 h5 F4 hns4 hacc4 ?S ?helt ?hR
    case S =>
      refine ⟨hz4, k4 _ _ hTI, ⟨_, _, k4 _ _ hTO⟩, by simpa using k4 _ _ hi1, ⟨Gn4, ⟨_, Array.getElem?_push_size .., fun s'' k wx => ⟨rfl, ?_⟩⟩⟩, wx4⟩
      refine seg_ch0 (x := P.y1) (D := D) (dx := P.dy1) (hs := P.h1) (tk := P.ta) (tn := P.tb) (n := P.n) X T (by show 301 + 1 + 40 < 1000; decide) (by show 4 + 3 + 1 + 1 + 250 < 9900; decide) ⟨wg, ap2, wD, wy, wd⟩ hne hx hb he s'' ?_ ?_ wx
      · exact Fr.eqm ⟨((hNs.at' fun o e => K3 _ o e).at' fun o e => k4 _ o e).at' fun o e => k _ o ap2 e, fun b o e => k b o (fun hb => by rw [wg b hb] at e; cases e) (F4.keep b o e), Nat.le_trans F.above (Nat.le_of_lt (Nat.lt_succ_of_lt hLD))⟩ (lk_eq P.y1 D)
      · intro q hq
        simp only [List.mem_cons, List.not_mem_nil, or_false] at hq
        rcases hq with rfl | rfl | rfl
        · exact ⟨k _ _ wD (k4 _ _ (K3 _ _ hD)), Nat.ne_of_lt (Nat.lt_succ_self _), fresh _ (Nat.le_of_lt hrD)⟩
        · exact ⟨k _ _ wy (KS _ _ Ny.1), Nat.ne_of_lt (Nat.lt_succ_of_lt (Nat.lt_trans (Heap.lt_size Ny.1) hrD)), Ny.2.2⟩
        · exact ⟨k _ _ wd (KS _ _ Nd.1), Nat.ne_of_lt (Nat.lt_succ_of_lt (Nat.lt_trans (Heap.lt_size Nd.1) hrD)), Nd.2.2⟩
    case helt =>
      intro s' m₂ y dy hs t1 t2 r Q E F' N' hn hm hk
      exact elt_id (fun Q E h => MethodCall_ h) F' N' X T (by show 301 + 1 + 20 < 1000; decide) (by show 4 + 3 + 100 < 9900; decide) (fun Q E hq => wpAny_Name (wpAny_loadName_local rfl rfl hn hm hq) (by decide)) hk
    case hR =>
      intro h' tk gens' ys m' ge gf hyl hys hacc' hC' F' kp
      refine ⟨m', hC', fun h'' hs'' => ?_⟩
      refine h (D + 3 + 4) h'' tk gens' ys (fun B => allBare_gen B ge gf) hyl hys ?_ (fun b o hL e => hs''.extBut b o ?_ (kp b o ?_ ?_ (KS b o e))) (hs''.extBut _ _ ad1.2.2.2.1.symm hacc') (Nat.lt_trans hrD (lt7 D))
      · exact F'.change hs'' ad1.2.2.2.2 (wg _ (.tail _ (.tail _ (.tail _ (.tail _ (.head _))))))
      · exact Nat.ne_of_lt (Nat.lt_trans (Nat.lt_trans (Heap.lt_size e) hrD) (lt8' D))
      · exact apart_old D P.L b (Nat.le_of_lt (Nat.lt_trans (Heap.lt_size e) hrD)) hL
      · exact Nat.ne_of_lt (Nat.lt_succ_of_lt (Nat.lt_trans (Heap.lt_size e) hrD)))
theorem zit18 {rest : List (Addr × Obj)} (F : Fr h₀ P.L s.heap (mF P fv)) (N : News h₀ P.L s.heap ((P.L + 6, o6) :: (P.L + 5, P.o5) :: (P.y1, instObj 425 P.dy1) :: (P.dy1, cellD P.h1 P.ta P.tb P.n) :: rest)) (X : (hd.heap_39 w.params).In h₀) (T : TopRead p loose mg mb h₀) (d5 : P.o5.data = .cell (some (.ref P.y1))) {kv : Int} {t6 : Tok} (d6 : o6.data = .cell (some (.int kv t6))) 
    (h : ∀ t u v h' tk', IsRange h' s.heap.objs.size 0 5 1 t u v → Fr h₀ P.L h' (mF P fv) → Keep s.heap h' → wpAny (model PR w) (lawA P.L P.a P.cd) (call (.ref 271) (.ref P.y1 :: [.int kv t6])) (fun v s₁ => wpAny (model PR w) (lawA P.L P.a P.cd) (call (.type "zip") [.ref s.heap.objs.size, v]) Q E s₁) E { s with heap := h', toks := tk' }) :
    wpAny (model PR w) (lawA P.L P.a P.cd) (eval (lcI z18) (lawEnv P.L P.a P.cd)) Q E s := by
  have hA := lawA_d P.L P.a P.cd
  have hu := lawA_u P.L P.a P.cd
  unfold lawEnv
  refine eval_is (e' := ?stx) ?e ?_
  case e => conv => lhs; whnf
  k_steps
  refine wpAny_mono (h _ _ _ _ _ (by assumption) (by k_asm) (by assumption)) (fun v s1 h1 => args_nil h1) (fun _ _ e => e)
theorem zc18 {xs : Nat → Int} {cnt : Nat} {rest : List (Addr × Obj)} (F : Fr h₀ P.L s.heap (mF P fv)) (N : News h₀ P.L s.heap ((P.L + 6, o6) :: (P.L + 5, P.o5) :: (P.y1, instObj 425 P.dy1) :: (P.dy1, cellD P.h1 P.ta P.tb P.n) :: rest)) (X : (hd.heap_39 w.params).In h₀) (T : TopRead p loose mg mb h₀) (d5 : P.o5.data = .cell (some (.ref P.y1))) {kv : Int} {t6 : Tok} (d6 : o6.data = .cell (some (.int kv t6))) 
    (h5 : cnt < 5) (hne : ∀ i, i < cnt → xs i ≠ xs cnt) (hx : ∀ i, i < cnt → ∀ a, Ct w 4 264 [.ref a] (fun g h => IsCell g h a (xs i)) (fun h h' v => NewC h h' v (xs (i + 1))))
    (hb : Ct w 6 243 (.ref P.y1 :: [.int kv t6]) (fun g h => IsCell g h P.y1 P.n) (fun h h' v => NewC h h' v (xs 0))) (he : Ct w 6 250 (.ref P.y1 :: [.int kv t6]) (fun g h => IsCell g h P.y1 P.n) (fun h h' v => NewC h h' v (xs cnt)))
    (h : ∀ (D : Addr) h' tk' gens' ys, (AllBare s.gens → AllBare gens') → ys.length = cnt → (∀ i v, ys[i]? = some v → ∃ t, v = Value.int (xs i) t) → Fr h₀ P.L h' (mF P fv) → (∀ b o, b ≠ P.L → s.heap.get? b = some o → h'.get? b = some o) → h'.get? D = some (LCg.lst ys) → s.heap.objs.size < D → Q (.ref D) { s with heap := h', toks := tk', gens := gens' }) :
    wpAny (model PR w) (lawA P.L P.a P.cd) (eval z18 (lawEnv P.L P.a P.cd)) Q E s := by
  have hA := lawA_d P.L P.a P.cd
  have hu := lawA_u P.L P.a P.cd
  refine eval_is (e' := ?stx) ?e ?_
  case e => conv => lhs; whnf
  refine wpAny_ListComp (scope := zcScope (PySem.Str.ofString "n") (PySem.Str.ofString "one")) (by decide) rfl (by decide) ?_ (by intro _; rfl)
  show wpAny _ _ (eval (lcI z18) (lawEnv P.L P.a P.cd)) _ _ _
  refine zit18 F N X T d5 d6 fun t u v h1 tk1 hr F1 K1 => ?_
  have fresh : ∀ b, s.heap.objs.size ≤ b → h₀.get? b = none := fun b hb => by
    cases e : h₀.get? b with
    | none => rfl
    | some o => exact absurd (Heap.lt_size (F.keep b o e)) (Nat.not_lt.mpr hb)
  refine ret_call ?_
  refine' enterG (vs := [.int kv t6]) (binds := fun D => [(PySem.Str.ofString "self", .ref P.y1), (PySem.Str.ofString "args", .ref D)]) ⟨X, T⟩ F1.keep ?k6 ?k7 ?k8 ?kP ?kG ?kB ?_ ?c2 ?c3 ?c4 ?c5
  case k6 => k_is
  case k7 => k_is
  case k8 => walk_at "m_room"
  case kP => exact rfl
  case kG => intro D; exact rfl
  case kB => intro D; exact locs rfl
  case c5 => decide
  case c2 => exact rfl
  case c3 => exact rfl
  case c4 => exact rfl
  intro D h2 tk2 eD K2 hD hNs hGen hsz
  dsimp only at eD K2 hGen
  have hrD : s.heap.objs.size < D := by rw [eD]; exact Heap.lt_size hr
  have hLs : P.L < s.heap.objs.size := F.ns.lt
  refine call_zipg (t := t) (u := u) (v := v) (K2 _ _ hr) hGen fun n h3 en hz hTI hTO hi1 hsz3 K3 => ?_
  dsimp only at en K3
  rw [hsz] at en
  subst en
  refine wpAny_pyIter_zip hz ?_
  refine wpAny_newObj_type (wpAny_newFunctionEnv (by decide) (by intro y hy; simp at hy) (fun h4 hns4 hsb4 => ?_) rfl)
  simp only [Heap.size_push, hsz3] at hns4 hsb4 ⊢
  have hLD : P.L < D := Nat.lt_trans hLs hrD
  have lt8 : ∀ b o, h3.get? b = some o → b < D + 3 + 4 := fun b o e => hsz3 ▸ Heap.lt_size e
  have k4 : Keep h3 h4 := fun b o e => hsb4.extBut b o (Nat.ne_of_lt (Nat.lt_succ_of_lt (lt8 b o e))) (Heap.get?_push_of_some _ (Heap.get?_push_of_some _ e))
  have hacc4 : h4.get? (D + 3 + 4) = some (LCg.lst []) := hsb4.extBut _ _ (Nat.ne_of_lt (Nat.lt_succ_self _)) (Heap.get?_push_of_some _ (by have := Heap.get?_push_size (h := h3) (o := LCg.lst []) rfl; rw [hsz3] at this; exact this))
  have F4 : Fr h₀ P.L h4 (mF P fv) := F1.keeps fun b o e => k4 _ _ (K3 _ _ (K2 _ _ e))
  have KS : Keep s.heap h4 := fun b o e => k4 _ _ (K3 _ _ (K2 _ _ (K1 _ _ e)))
  obtain ⟨ap1, ap2, ap3⟩ := apart D P.L hLD
  obtain ⟨ad1, ad2, ad3⟩ := apart_d D P.L hLD
  have wg : ∀ b ∈ [D + 3 + 3, D + 3 + 2, D + 3, D + 3 + 4, D + 3 + 4 + 1, P.L], h₀.get? b = none := fun b hb => by
    rcases in_wr (n := s.heap.objs.size) (Nat.le_of_lt hrD) hb with hb | hb
    · exact fresh b hb
    · rw [hb]; exact Heap.get?_none_of_le F.above
  have N1 : ∀ q ∈ [(P.y1, instObj 425 P.dy1), (P.dy1, cellD P.h1 P.ta P.tb P.n)], s.heap.get? q.1 = some q.2 ∧ q.1 ≠ P.L ∧ h₀.get? q.1 = none := fun q hq => N q (by
    simp only [List.mem_cons, List.not_mem_nil, or_false] at hq
    rcases hq with rfl | rfl <;> simp)
  have Ny := N1 (P.y1, instObj 425 P.dy1) (by simp)
  have Nd := N1 (P.dy1, cellD P.h1 P.ta P.tb P.n) (by simp)
  have wy : P.y1 ∉ [D + 3 + 3, D + 3 + 2, D + 3, D + 3 + 4, D + 3 + 4 + 1, P.L] := apart_old D P.L P.y1 (Nat.le_of_lt (Nat.lt_trans (Heap.lt_size Ny.1) hrD)) Ny.2.1
  have wd : P.dy1 ∉ [D + 3 + 3, D + 3 + 2, D + 3, D + 3 + 4, D + 3 + 4 + 1, P.L] := apart_old D P.L P.dy1 (Nat.le_of_lt (Nat.lt_trans (Heap.lt_size Nd.1) hrD)) Nd.2.1
  have wD : D ∉ [D + 3 + 3, D + 3 + 2, D + 3, D + 3 + 4, D + 3 + 4 + 1, P.L] := apart_old D P.L D (Nat.le_refl _) (Nat.ne_of_gt hLD)
  have hz4 := k4 _ _ hz
  have wx4 : ∀ b ∈ [D + 3 + 3, D + 3 + 2, D + 3, D + 3 + 4, D + 3 + 4 + 1, P.L], ∃ o, h4.get? b = some o := fun b hb => by
    simp only [List.mem_cons, List.not_mem_nil, or_false] at hb
    rcases hb with rfl | rfl | rfl | rfl | rfl | rfl
    · exact ⟨_, hz4⟩
    · exact ⟨_, k4 _ _ hTO⟩
    · exact ⟨_, k4 _ _ hi1⟩
    · exact ⟨_, hacc4⟩
    · obtain ⟨o, _, _, ho, _⟩ := hns4; exact ⟨o, ho⟩
    · obtain ⟨o, _, _, ho, _⟩ := F4.ns; exact ⟨o, ho⟩
  have Gn4 : h4.IsGen (D + 2) s.gens.size := hGen.keeps fun b o e => k4 _ _ (K3 _ _ e)
  refine codeAny_compStart_list ?l1 (wpAny_pyIter_zip hz4 ?l2)
  all_goals (
    refine zc_loop (env := lawEnv P.L P.a P.cd) (C := D + 3 + 4 + 1) (G := D + 1) (xs := xs) (cnt := cnt) (a := D + 2) (TI := D + 3 + 1) (TO := D + 3 + 2) (i1 := D + 3) (gi := s.gens.size) (by decide) (fresh _ (Nat.le_of_lt (Nat.lt_succ_of_lt hrD))) (by decide) (by decide) X T (by show 301 + 1 + 60 < 1000; decide) (by show 4 + 3 + 300 < 9900; decide) (lawA_h _ _ _) (zpart D) wg ap1 ap2 ap3 ad1 ad2 ad3 h5 F4 hns4 hacc4 ?S ?helt ?hR
    case S =>
      refine ⟨hz4, k4 _ _ hTI, ⟨_, _, k4 _ _ hTO⟩, by simpa using k4 _ _ hi1, ⟨Gn4, ⟨_, Array.getElem?_push_size .., fun s'' k wx => ⟨rfl, ?_⟩⟩⟩, wx4⟩
      refine seg_ch1 (x := P.y1) (D := D) (dx := P.dy1) (hs := P.h1) (tk := P.ta) (tn := P.tb) (n := P.n) X T (by show 301 + 1 + 40 < 1000; decide) (by show 4 + 3 + 1 + 1 + 250 < 9900; decide) ⟨wg, ap2, wD, wy, wd⟩ hne hx hb he s'' ?_ ?_ wx
      · exact Fr.eqm ⟨((hNs.at' fun o e => K3 _ o e).at' fun o e => k4 _ o e).at' fun o e => k _ o ap2 e, fun b o e => k b o (fun hb => by rw [wg b hb] at e; cases e) (F4.keep b o e), Nat.le_trans F.above (Nat.le_of_lt (Nat.lt_succ_of_lt hLD))⟩ (lk_eq P.y1 D)
      · intro q hq
        simp only [List.mem_cons, List.not_mem_nil, or_false] at hq
        rcases hq with rfl | rfl | rfl
        · exact ⟨k _ _ wD (k4 _ _ (K3 _ _ hD)), Nat.ne_of_lt (Nat.lt_succ_self _), fresh _ (Nat.le_of_lt hrD)⟩
        · exact ⟨k _ _ wy (KS _ _ Ny.1), Nat.ne_of_lt (Nat.lt_succ_of_lt (Nat.lt_trans (Heap.lt_size Ny.1) hrD)), Ny.2.2⟩
        · exact ⟨k _ _ wd (KS _ _ Nd.1), Nat.ne_of_lt (Nat.lt_succ_of_lt (Nat.lt_trans (Heap.lt_size Nd.1) hrD)), Nd.2.2⟩
    case helt =>
      intro s' m₂ y dy hs t1 t2 r Q E F' N' hn hm hk
      exact elt_id (fun Q E h => MethodCall_ h) F' N' X T (by show 301 + 1 + 20 < 1000; decide) (by show 4 + 3 + 100 < 9900; decide) (fun Q E hq => wpAny_Name (wpAny_loadName_local rfl rfl hn hm hq) (by decide)) hk
    case hR =>
      intro h' tk gens' ys m' ge gf hyl hys hacc' hC' F' kp
      refine ⟨m', hC', fun h'' hs'' => ?_⟩
      refine h (D + 3 + 4) h'' tk gens' ys (fun B => allBare_gen B ge gf) hyl hys ?_ (fun b o hL e => hs''.extBut b o ?_ (kp b o ?_ ?_ (KS b o e))) (hs''.extBut _ _ ad1.2.2.2.1.symm hacc') (Nat.lt_trans hrD (lt7 D))
      · exact F'.change hs'' ad1.2.2.2.2 (wg _ (.tail _ (.tail _ (.tail _ (.tail _ (.head _))))))
      · exact Nat.ne_of_lt (Nat.lt_trans (Nat.lt_trans (Heap.lt_size e) hrD) (lt8' D))
      · exact apart_old D P.L b (Nat.le_of_lt (Nat.lt_trans (Heap.lt_size e) hrD)) hL
      · exact Nat.ne_of_lt (Nat.lt_succ_of_lt (Nat.lt_trans (Heap.lt_size e) hrD)))
end
end Mine
end
-- part L10B
namespace Mine
open PySem.W
/-- what the generator's run needs of its numbers -/
structure GenC (w : World) (x : Addr) (n : Int) (vs : List Value) (xs : Nat → Int) (cnt : Nat) : Prop where
  h5 : cnt < 5
  hne : ∀ i, i < cnt → xs i ≠ xs cnt
  hx : ∀ i, i < cnt → ∀ a, Ct w 4 264 [.ref a] (fun g h => IsCell g h a (xs i)) (fun h h' v => NewC h h' v (xs (i + 1)))
  hb : Ct w 6 243 (.ref x :: vs) (fun g h => IsCell g h x n) (fun h h' v => NewC h h' v (xs 0))
  he : Ct w 6 250 (.ref x :: vs) (fun g h => IsCell g h x n) (fun h h' v => NewC h h' v (xs cnt))
theorem ints_shift : ∀ (zs : List Value) (xs : Nat → Int) (k : Nat), (∀ i v, zs[i]? = some v → ∃ t, v = Value.int (xs (k + i)) t) → IntsAre zs ((List.range zs.length).map fun i => xs (k + i))
  | [], _, _, _ => .nil
  | v :: zs, xs, k, h => by
    obtain ⟨t, rfl⟩ := h 0 v rfl
    have ih := ints_shift zs xs (k + 1) fun i v e => by
      obtain ⟨t, e'⟩ := h (i + 1) v (by simpa using e)
      exact ⟨t, by rw [e', Nat.add_assoc, Nat.add_comm 1 i]⟩
    have e : ((List.range (Value.int (xs (k + 0)) t :: zs).length).map fun i => xs (k + i)) = xs (k + 0) :: ((List.range zs.length).map fun i => xs (k + 1 + i)) := by
      rw [List.length_cons, List.range_succ_eq_map, List.map_cons, List.map_map]
      congr 1
      apply List.map_congr_left
      intro i _
      show xs (k + (i + 1)) = xs (k + 1 + i)
      rw [Nat.add_assoc, Nat.add_comm 1 i]
    rw [e]
    exact .cons _ _ ih
theorem ints_of {zs : List Value} {xs : Nat → Int} {cnt : Nat} (hl : zs.length = cnt) (h : ∀ i v, zs[i]? = some v → ∃ t, v = Value.int (xs i) t) : IntsAre zs ((List.range cnt).map xs) := by
  have := ints_shift zs xs 0 fun i v e => by rw [Nat.zero_add]; exact h i v e
  rw [hl] at this
  simpa using this
section
variable {w : World} {s : Shared} {h₀ : Heap} {mg mb : Str → Option Value} {p : Program} {loose : List Str} {Q : Value → Shared → Prop} {E : Value → Shared → Prop} {P : LP} {fv : Option Value} {o6 : Obj} {news : List (Addr × Obj)} {xs : Nat → Int} {cnt : Nat} {l : List Int}
theorem zcK17 (F : Fr h₀ P.L s.heap (mF P fv)) (N : News h₀ P.L s.heap news) (hs : ∀ q ∈ [(P.L + 5, P.o5), (P.y1, instObj 425 P.dy1), (P.dy1, cellD P.h1 P.ta P.tb P.n)], q ∈ news) (X : (hd.heap_39 w.params).In h₀) (T : TopRead p loose mg mb h₀) (d5 : P.o5.data = .cell (some (.ref P.y1))) 
    (C : GenC w P.y1 P.n [] xs cnt) (hl : (List.range cnt).map xs = l)
    (h : ∀ D h' tk' gens' zs, (AllBare s.gens → AllBare gens') → IntsAre zs l → Fr h₀ P.L h' (mF P fv) → News h₀ P.L h' ((D, LCg.lst zs) :: news) → (∀ q ∈ news, q.1 ≠ D) → Q (.ref D) { s with heap := h', toks := tk', gens := gens' }) :
    wpAny (model PR w) (lawA P.L P.a P.cd) (eval z17 (lawEnv P.L P.a P.cd)) Q E s :=
  zc17 (rest := []) F (News.sub N hs) X T d5 C.h5 C.hne C.hx C.hb C.he fun D h' tk' gens' ys ab hyl hys F' kp hD lt => by
    have hDn : ∀ q ∈ news, q.1 ≠ D := fun q hq => Nat.ne_of_lt (Nat.lt_trans (Heap.lt_size (N q hq).1) lt)
    refine h D h' tk' gens' ys ab (hl ▸ ints_of hyl hys) F' (fun q hq => ?_) hDn
    rcases List.mem_cons.mp hq with rfl | hq
    · refine ⟨hD, Nat.ne_of_gt (Nat.lt_trans F.ns.lt lt), ?_⟩
      cases e : h₀.get? D with
      | none => rfl
      | some o => exact absurd (Nat.lt_trans (Heap.lt_size (F.keep _ _ e)) lt) (Nat.lt_irrefl _)
    · exact ⟨kp _ _ (N q hq).2.1 (N q hq).1, (N q hq).2⟩
theorem zcK18 (F : Fr h₀ P.L s.heap (mF P fv)) (N : News h₀ P.L s.heap news) (hs : ∀ q ∈ [(P.L + 6, o6), (P.L + 5, P.o5), (P.y1, instObj 425 P.dy1), (P.dy1, cellD P.h1 P.ta P.tb P.n)], q ∈ news) (X : (hd.heap_39 w.params).In h₀) (T : TopRead p loose mg mb h₀) (d5 : P.o5.data = .cell (some (.ref P.y1))) {kv : Int} {t6 : Tok} (d6 : o6.data = .cell (some (.int kv t6))) 
    (C : GenC w P.y1 P.n [.int kv t6] xs cnt) (hl : (List.range cnt).map xs = l)
    (h : ∀ D h' tk' gens' zs, (AllBare s.gens → AllBare gens') → IntsAre zs l → Fr h₀ P.L h' (mF P fv) → News h₀ P.L h' ((D, LCg.lst zs) :: news) → (∀ q ∈ news, q.1 ≠ D) → Q (.ref D) { s with heap := h', toks := tk', gens := gens' }) :
    wpAny (model PR w) (lawA P.L P.a P.cd) (eval z18 (lawEnv P.L P.a P.cd)) Q E s :=
  zc18 (rest := []) F (News.sub N hs) X T d5 d6 C.h5 C.hne C.hx C.hb C.he fun D h' tk' gens' ys ab hyl hys F' kp hD lt => by
    have hDn : ∀ q ∈ news, q.1 ≠ D := fun q hq => Nat.ne_of_lt (Nat.lt_trans (Heap.lt_size (N q hq).1) lt)
    refine h D h' tk' gens' ys ab (hl ▸ ints_of hyl hys) F' (fun q hq => ?_) hDn
    rcases List.mem_cons.mp hq with rfl | hq
    · refine ⟨hD, Nat.ne_of_gt (Nat.lt_trans F.ns.lt lt), ?_⟩
      cases e : h₀.get? D with
      | none => rfl
      | some o => exact absurd (Nat.lt_trans (Heap.lt_size (F.keep _ _ e)) lt) (Nat.lt_irrefl _)
    · exact ⟨kp _ _ (N q hq).2.1 (N q hq).1, (N q hq).2⟩
end
end Mine
-- part LF
namespace Mine
open PySem.W
/-- the end of a loop's turn: the iterator J stands as it stood -/
def TurnE (P : LP) (h₀ : Heap) (fv : Option Value) (o7 o8 : Obj) (J : Addr) (oI : Obj) (s : Shared) (f : Flow) (s3 : Shared) : Prop :=
  f = .next ∧ ∃ h' tk' o6', s3 = { s with heap := h', toks := tk' } ∧ (∃ u, o6'.data = .cell u) ∧ Fr h₀ P.L h' (mF P fv) ∧ News h₀ P.L h' ((J, oI) :: ledF P o6' o7 o8)
theorem turnE {P : LP} {h₀ : Heap} {fv : Option Value} {o6' o7 o8 : Obj} {J : Addr} {oI : Obj} {s : Shared} {h' : Heap} {tk' : Nat} {news : List (Addr × Obj)} (F : Fr h₀ P.L h' (mF P fv)) (d : ∃ u, o6'.data = .cell u) (N : News h₀ P.L h' news) (hs : ∀ q ∈ (J, oI) :: ledF P o6' o7 o8, q ∈ news) :
    TurnE P h₀ fv o7 o8 J oI s .next { s with heap := h', toks := tk' } := ⟨rfl, h', tk', o6', rfl, d, F, fun q hq => N q (hs q hq)⟩

section
variable {w : World} {s : Shared} {h₀ : Heap} {Q : Flow → Shared → Prop} {E : Value → Shared → Prop} {P : LP} {fv : Option Value} {o6 o7 o8 : Obj}
theorem for_list {A : Around} {env : Env} {target iter : Expr} {body : List Stmt} {pos : Pos} {ax : Addr} {lo : Obj} {items : Array Value} {n : Nat} (hh : A.handled = none)
    (I : LI P h₀ fv o6 o7 o8 s) (hm : ∀ o6', (ax, lo) ∈ ledF P o6' o7 o8) (hc : lo.cls = .type "list") (hd : lo.data = .seq items n)
    (hev : ∀ Q' : Value → Shared → Prop, Q' (.ref ax) s → wpAny (model PR w) A (eval iter env) Q' E s)
    (step : ∀ (i : Nat) (v : Value) (h1 : Heap) (tk1 : Nat) (o6 : Obj) (J : Addr) (oI : Obj), items[i]? = some v → Fr h₀ P.L h1 (mF P fv) → (∃ u, o6.data = .cell u) → News h₀ P.L h1 ((J, oI) :: ledF P o6 o7 o8) → (@Ne Nat J (P.L + 6)) →
      wpAny (model PR w) A (assign target env v) (fun _ s2 => wpAny (model PR w) A (execs body env) (TurnE P h₀ fv o7 o8 J oI s) (fun _ _ => False) s2) (fun _ _ => False) { s with heap := h1, toks := tk1 })
    (fin : ∀ h' tk' o6', LI P h₀ fv o6' o7 o8 { s with heap := h', toks := tk' } → Q .next { s with heap := h', toks := tk' })
    (hs : ∀ x, foldedSetIterable iter env x = pure x) (ht : ∀ v J, letOwnedTupleGo target (.ref J) v = pure ()) :
    wpAny (model PR w) A (exec (.For target iter body [] pos) env) Q E s := by
  refine wpAny_For (hev _ ?_) hs
  have hl : s.heap.IsList ax items := ⟨lo, (I.N _ (hm o6)).1, hc, n, hd⟩
  refine wpAny_pyIter_list hl ?_
  -- the iterator's place
  have key : ∀ b o, s.heap.get? b = some o → b ≠ s.heap.objs.size := fun b o e => Nat.ne_of_lt (Heap.lt_size e)
  obtain ⟨oL, _, _, hL, _⟩ := I.F.ns
  have hJL : s.heap.objs.size ≠ P.L := fun e => key _ _ hL e.symm
  have hJ6 : @Ne Nat s.heap.objs.size (P.L + 6) := fun e => key (P.L + 6) o6 (I.N (P.L + 6, o6) (by k_mem)).1 e.symm
  have hJ0 : h₀.get? s.heap.objs.size = none := by
    cases q : h₀.get? s.heap.objs.size with
    | none => rfl
    | some o => exact absurd (Heap.lt_size (I.F.keep _ _ q)) (Nat.lt_irrefl _)
  have hJx : ax ≠ s.heap.objs.size := key _ _ (I.N _ (hm o6)).1
  have hJn : ∀ o6', ∀ q ∈ ledF P o6' o7 o8, q.1 ≠ s.heap.objs.size := fun o6' q hq => by
    have : ∃ o, (q.1, o) ∈ ledF P o6 o7 o8 := by
      simp only [ledF, ledC, List.mem_cons, List.not_mem_nil, or_false] at hq
      rcases hq with rfl | rfl | rfl | rfl | rfl | rfl | rfl | rfl | rfl | rfl | rfl | rfl | rfl | rfl
      all_goals exact ⟨_, by k_mem⟩
    obtain ⟨o, ho⟩ := this
    exact key _ _ (I.N _ ho).1
  generalize hJ : s.heap.objs.size = J at *
  refine codeAny_forLoop (fun k s' => ∃ i h' tk' o6', k = items.size + 1 - i ∧ i ≤ items.size ∧ s' = { s with heap := h', toks := tk' } ∧ h'.IsListIter J ax i ∧ Fr h₀ P.L h' (mF P fv) ∧ (∃ u, o6'.data = .cell u) ∧ News h₀ P.L h' (ledF P o6' o7 o8)) ?_ (items.size + 1)
    ⟨0, _, s.toks, o6, rfl, Nat.zero_le _, rfl, ⟨_, by rw [← hJ]; exact Heap.get?_push_size _ rfl, rfl, rfl⟩, I.F.push _, I.d6, fun q hq => ⟨Heap.get?_push_of_some _ (I.N q hq).1, (I.N q hq).2⟩⟩ (fun v => ht v J)
  rintro k s' ⟨i, h', tk', o6', rfl, hi, rfl, hit, F', d6', N'⟩
  have hl' : h'.IsList ax items := ⟨lo, (N' _ (hm o6')).1, hc, n, hd⟩
  by_cases hlt : i < items.size
  · have hx : items[i]? = some items[i] := Array.getElem?_eq_getElem hlt
    refine wpAny_pyNext_list_item hit hl' hx fun h1 hit1 hsb => ?_
    dsimp only
    obtain ⟨oI, hoI, hcI, hdI⟩ := hit1
    have F1 : Fr h₀ P.L h1 (mF P fv) := ⟨F'.ns.at' fun o e => (hsb.2 _ hJL.symm).trans e, fun b o e => (hsb.2 b (fun q => by subst q; rw [hJ0] at e; cases e)).trans (F'.keep b o e), F'.above⟩
    have N1 : News h₀ P.L h1 ((J, oI) :: ledF P o6' o7 o8) := fun q hq => by
      rcases List.mem_cons.mp hq with rfl | hq
      · exact ⟨hoI, hJL, hJ0⟩
      · exact ⟨(hsb.2 _ (hJn o6' q hq)).trans (N' q hq).1, (N' q hq).2⟩
    refine wpAny_mono (step i _ h1 tk' o6' J oI hx F1 d6' N1 hJ6) (fun _ s2 h2 => wpAny_mono h2 (fun f s3 h3 => ?_) fun _ _ e => e.elim) fun _ _ e => e.elim
    obtain ⟨rfl, h3', tk3, o63, rfl, d3, F3, N3⟩ := h3
    exact ⟨items.size + 1 - (i + 1), by omega, i + 1, h3', tk3, o63, rfl, hlt, rfl, ⟨oI, (N3 _ (List.mem_cons_self ..)).1, hcI, hdI⟩, F3, d3, fun q hq => N3 q (List.mem_cons_of_mem _ hq)⟩
  · have hin : i = items.size := by omega
    subst hin
    refine wpAny_pyNext_list_end hh hit hl' (Array.getElem?_eq_none (Nat.le_refl _)) fun h1 hsb => ?_
    dsimp only
    refine wpAny_execs_nil ?_
    have F1 : Fr h₀ P.L h1 (mF P fv) := ⟨F'.ns.at' fun o e => hsb _ o hJL.symm e, fun b o e => hsb b o (fun q => by subst q; rw [hJ0] at e; cases e) (F'.keep b o e), F'.above⟩
    exact fin _ _ o6' ⟨F1, fun q hq => ⟨hsb _ _ (hJn o6' q hq) (N' q hq).1, (N' q hq).2⟩, I.d1, I.d2, I.d3, I.d4, I.d5, d6', I.d7, I.d8, I.off1, I.off2, I.off3, I.g⟩
end
end Mine
-- part LG
namespace Mine
open PySem.W
/-- the end of a loop's turn that may change the generators' table -/
def TurnG (P : LP) (h₀ : Heap) (fv : Option Value) (o7 o8 : Obj) (J : Addr) (oI : Obj) (s : Shared) (f : Flow) (s3 : Shared) : Prop :=
  f = .next ∧ ∃ h' tk' g' o6', s3 = { s with heap := h', toks := tk', gens := g' } ∧ AllBare g' ∧ (∃ u, o6'.data = .cell u) ∧ Fr h₀ P.L h' (mF P fv) ∧ News h₀ P.L h' ((J, oI) :: ledF P o6' o7 o8)
theorem turnG {P : LP} {h₀ : Heap} {fv : Option Value} {o6' o7 o8 : Obj} {J : Addr} {oI : Obj} {s : Shared} {h' : Heap} {tk' : Nat} {g' : Array GenState} {news : List (Addr × Obj)} (B : AllBare g') (F : Fr h₀ P.L h' (mF P fv)) (d : ∃ u, o6'.data = .cell u) (N : News h₀ P.L h' news) (hs : ∀ q ∈ (J, oI) :: ledF P o6' o7 o8, q ∈ news) :
    TurnG P h₀ fv o7 o8 J oI s .next { s with heap := h', toks := tk', gens := g' } := ⟨rfl, h', tk', g', o6', rfl, B, d, F, fun q hq => N q (hs q hq)⟩
section
variable {w : World} {s : Shared} {h₀ : Heap} {Q : Flow → Shared → Prop} {E : Value → Shared → Prop} {P : LP} {fv : Option Value} {o6 o7 o8 : Obj}
theorem for_range {A : Around} {env : Env} {target iter : Expr} {body : List Stmt} {pos : Pos} {a b : Int} (hh : A.handled = none) (hab : a ≤ b) (hsm : Builtin.Range.small a b 1 = true) (hsz : Builtin.Range.rangeSize a b 1 = b - a)
    (hev : ∀ Q' : Value → Shared → Prop, (∀ r h' tk' t u v, IsRange h' r a b 1 t u v → LI P h₀ fv o6 o7 o8 { s with heap := h', toks := tk' } → Q' (.ref r) { s with heap := h', toks := tk' }) → wpAny (model PR w) A (eval iter env) Q' E s)
    (step : ∀ (x : Int) (t : Tok) (h1 : Heap) (tk1 : Nat) (g1 : Array GenState) (o6 : Obj) (J : Addr) (oI : Obj), a ≤ x → x < b → AllBare g1 → Fr h₀ P.L h1 (mF P fv) → (∃ u, o6.data = .cell u) → News h₀ P.L h1 ((J, oI) :: ledF P o6 o7 o8) → (@Ne Nat J (P.L + 6)) →
      wpAny (model PR w) A (assign target env (.int x t)) (fun _ s2 => wpAny (model PR w) A (execs body env) (TurnG P h₀ fv o7 o8 J oI s) (fun _ _ => False) s2) (fun _ _ => False) { s with heap := h1, toks := tk1, gens := g1 })
    (fin : ∀ h' tk' g' o6', LI P h₀ fv o6' o7 o8 { s with heap := h', toks := tk', gens := g' } → Q .next { s with heap := h', toks := tk', gens := g' })
    (hs : ∀ x, foldedSetIterable iter env x = pure x) (ht : ∀ v J, letOwnedTupleGo target (.ref J) v = pure ()) :
    wpAny (model PR w) A (exec (.For target iter body [] pos) env) Q E s := by
  refine wpAny_For (hev _ fun r h0' tk0' t u v hr I => ?_) hs
  refine wpAny_pyIter_range hr hsm ?_
  have key : ∀ b o, h0'.get? b = some o → b ≠ h0'.objs.size := fun b o e => Nat.ne_of_lt (Heap.lt_size e)
  obtain ⟨oL, _, _, hL, _⟩ := I.F.ns
  have hJL : h0'.objs.size ≠ P.L := fun e => key _ _ hL e.symm
  have hJ6 : @Ne Nat h0'.objs.size (P.L + 6) := fun e => key (P.L + 6) o6 (I.N (P.L + 6, o6) (by k_mem)).1 e.symm
  have hJ0 : h₀.get? h0'.objs.size = none := by
    cases q : h₀.get? h0'.objs.size with
    | none => rfl
    | some o => exact absurd (Heap.lt_size (I.F.keep _ _ q)) (Nat.lt_irrefl _)
  have hJn : ∀ o6', ∀ q ∈ ledF P o6' o7 o8, q.1 ≠ h0'.objs.size := fun o6' q hq => by
    have : ∃ o, (q.1, o) ∈ ledF P o6 o7 o8 := by
      simp only [ledF, ledC, List.mem_cons, List.not_mem_nil, or_false] at hq
      rcases hq with rfl | rfl | rfl | rfl | rfl | rfl | rfl | rfl | rfl | rfl | rfl | rfl | rfl | rfl
      all_goals exact ⟨_, by k_mem⟩
    obtain ⟨o, ho⟩ := this
    exact key _ _ (I.N _ ho).1
  dsimp only
  rw [hsz]
  generalize hJ : h0'.objs.size = J at *
  refine codeAny_forLoop (fun k s' => ∃ x h' tk' g' o6', (k : Int) = b + 1 - x ∧ a ≤ x ∧ x ≤ b ∧ s' = { s with heap := h', toks := tk', gens := g' } ∧ AllBare g' ∧ IsRangeIter h' J x (b - x) 1 ∧ Fr h₀ P.L h' (mF P fv) ∧ (∃ u, o6'.data = .cell u) ∧ News h₀ P.L h' (ledF P o6' o7 o8)) ?_ (b + 1 - a).toNat
    ⟨a, _, tk0', s.gens, o6, by omega, Int.le_refl _, hab, rfl, I.g, by rw [← hJ]; exact Heap.get?_push_size _ rfl, I.F.push _, I.d6, fun q hq => ⟨Heap.get?_push_of_some _ (I.N q hq).1, (I.N q hq).2⟩⟩ (fun v => ht v J)
  rintro k s' ⟨x, h', tk', g', o6', hk, hx0, hx1, rfl, B', hit, F', d6', N'⟩
  by_cases hlt : x < b
  · refine wpAny_pyNext_range_item hit (by omega) fun h1 hit1 hsb => ?_
    dsimp only
    have F1 : Fr h₀ P.L h1 (mF P fv) := ⟨F'.ns.at' fun o e => (hsb.2 _ hJL.symm).trans e, fun b o e => (hsb.2 b (fun q => by subst q; rw [hJ0] at e; cases e)).trans (F'.keep b o e), F'.above⟩
    have N1 : News h₀ P.L h1 ((J, { cls := .type "range_iterator", dict := none, data := .fields #[rawInt (x + 1), rawInt (b - x - 1), rawInt 1], slots := #[] }) :: ledF P o6' o7 o8) := fun q hq => by
      rcases List.mem_cons.mp hq with rfl | hq
      · exact ⟨hit1, hJL, hJ0⟩
      · exact ⟨(hsb.2 _ (hJn o6' q hq)).trans (N' q hq).1, (N' q hq).2⟩
    refine wpAny_mono (step x _ h1 (tk' + 1) g' o6' J _ hx0 hlt B' F1 d6' N1 hJ6) (fun _ s2 h2 => wpAny_mono h2 (fun f s3 h3 => ?_) fun _ _ e => e.elim) fun _ _ e => e.elim
    obtain ⟨rfl, h3', tk3, g3, o63, rfl, B3, d3, F3, N3⟩ := h3
    have hi3 := (N3 _ (List.mem_cons_self ..)).1
    refine ⟨(b + 1 - (x + 1)).toNat, by omega, x + 1, h3', tk3, g3, o63, by omega, by omega, by omega, rfl, B3, ?_, F3, d3, fun q hq => N3 q (List.mem_cons_of_mem _ hq)⟩
    rw [show b - (x + 1) = b - x - 1 from by omega]
    exact hi3
  · refine wpAny_pyNext_range_end hh hit (by omega) fun h1 hsb => ?_
    dsimp only
    refine wpAny_execs_nil ?_
    have F1 : Fr h₀ P.L h1 (mF P fv) := ⟨F'.ns.at' fun o e => hsb _ o hJL.symm e, fun b o e => hsb b o (fun q => by subst q; rw [hJ0] at e; cases e) (F'.keep b o e), F'.above⟩
    exact fin _ _ _ o6' ⟨F1, fun q hq => ⟨hsb _ _ (hJn o6' q hq) (N' q hq).1, (N' q hq).2⟩, I.d1, I.d2, I.d3, I.d4, I.d5, d6', I.d7, I.d8, I.off1, I.off2, I.off3, B'⟩
end
end Mine
-- part LT
namespace Mine
open PySem.W
/-- a tuple of the ledger -/
def SrcTup (ax : Addr) (its : Array Value) (news : List (Addr × Obj)) : Prop := False ∨ ∃ o, (ax, o) ∈ news ∧ o.cls = .type "tuple" ∧ ∃ n, o.data = .seq its n
theorem SrcTup.tup {h₀ h : Heap} {L ax : Addr} {its : Array Value} {news : List (Addr × Obj)} (x : SrcTup ax its news) (N : News h₀ L h news) : h.IsTuple ax its := by
  rcases x with x | ⟨o, hm, r⟩
  · exact x.elim
  · exact ⟨o, (N _ hm).1, r⟩
def SrcT (prog : Program) (w : World) (A : Around) (h₀ : Heap) (L : Addr) (m : Str → Option Value) (env : Env) (elt : PySem.Expr) (x : Str) (scope : Scope) (cl : List (Str × Addr)) (Fin : Shared → List Value → List (Addr × Obj) → Prop) (xv : Value) (s₁ : Shared) : Prop :=
  ∃ ax its news, xv = .ref ax ∧ A.handled = none ∧ Fr h₀ L s₁.heap m ∧ News h₀ L s₁.heap news ∧ SrcTup ax its news ∧ its.size ≤ sizeLine ∧
    ∀ s₂ : Shared, (∃ h, s₂ = { s₁ with heap := h }) → LCg.CompRest prog w A h₀ L m env elt x scope cl s₂ (SrcTup ax its) (fun i v => its[i]? = some v) (Fin s₂) its.size 0 [] news
section
variable {prog : Program} {w : World} {A : Around} {E : Value → Shared → Prop} {s : Shared} {h₀ : Heap} {L : Addr} {m : Str → Option Value} {env : Env}
theorem SrcT.intro {elt : PySem.Expr} {x : Str} {scope : Scope} {cl : List (Str × Addr)} {Fin : Shared → List Value → List (Addr × Obj) → Prop} {ax : Addr} {its : Array Value} {k : Nat} {news : List (Addr × Obj)} {s₁ : Shared}
    (hh : A.handled = none) (F : Fr h₀ L s₁.heap m) (N : News h₀ L s₁.heap news) (hm : (ax, ({ cls := .type "tuple", data := .seq its k } : Obj)) ∈ news) (hsz : its.size ≤ sizeLine)
    (h : ∀ g, LCg.CompRest prog w A h₀ L m env elt x scope cl { s₁ with heap := g } (SrcTup ax its) (fun i v => its[i]? = some v) (Fin { s₁ with heap := g }) its.size 0 [] news) :
    SrcT prog w A h₀ L m env elt x scope cl Fin (.ref ax) s₁ := ⟨ax, its, news, rfl, hh, F, N, .inr ⟨_, hm, rfl, _, rfl⟩, hsz, fun _ ⟨g, e⟩ => e ▸ h g⟩
theorem tup_st {ax I : Addr} {its : Array Value} : ∀ i (h h' : Heap) (o : Obj) (nw : List (Addr × Obj)), (h.IsTupleIter I ax i ∧ h.IsTuple ax its) → h.get? I = some o → h'.get? I = some o → (∀ b o, h₀.get? b = some o → h'.get? b = some o) → News h₀ L h' nw → SrcTup ax its nw → (h'.IsTupleIter I ax i ∧ h'.IsTuple ax its) :=
  fun i h h' o nw st e e' k N S => ⟨by obtain ⟨o', q, r⟩ := st.1; rw [e] at q; cases q; exact ⟨o, e', r⟩, S.tup N⟩
theorem ListComp_T {elt iter : PySem.Expr} {x : Str} {px : Pos} {scope : Scope} {cl : List (Str × Addr)} {pos : Pos} {Q : Value → Shared → Prop} (F₀ : Fr h₀ L s.heap m)
    (hclos : closureFor scope env = pure cl) (hcell : ∀ y ∈ scope.names, y.2 ≠ .cell) (hkind : scope.kind = .function)
    (hnames : ∀ y ∈ scope.names, y.2 = .local → scope.names.lookup y.1 = some .local) (hx : scope.names.lookup x = some .local)
    (h : wpAny (model prog w) A (eval iter env) (SrcT prog w A h₀ L m env elt x scope cl (fun s₂ => LCg.FinE h₀ L m s₂ Q)) E s)
    (hs : ∀ x, foldedSetIterable iter env x = pure x := by intro _; rfl) :
    wpAny (model prog w) A (eval (.ListComp elt [⟨.Name x px, iter, [], 0⟩] scope pos) env) Q E s := by
  rw [eval_ListComp]
  refine wpAny_comprehension_free (use := none) rfl hs hclos hkind hnames (wpAny_mono h (fun xv s₁ h₁ => ?_) fun _ _ e => e)
  obtain ⟨ax, its, news, rfl, hh, F, N, S, hsz, R⟩ := h₁
  have hl := S.tup N
  have hlt : ax < s₁.heap.objs.size := by obtain ⟨_, e, _⟩ := hl; exact Heap.lt_size e
  refine wpAny_pyIter_tuple hl ?_
  have up : ∀ b o, s₁.heap.get? b = some o → (s₁.heap.push { cls := .type "tuple_iterator", data := .fields #[.ref ax, .int 0 0] }).get? b = some o := fun b o e => Heap.get?_push_of_some _ e
  refine LCg.block_U (Walks.tuple hh s₁.heap.objs.size ax (Nat.ne_of_lt hlt) its) hsz (fun i h st => by obtain ⟨o, e, _⟩ := st.1; exact ⟨o, e⟩) tup_st hcell hkind hx ⟨⟨_, Heap.get?_push_size _ rfl, rfl, rfl⟩, hl.push _⟩ (fun b hb => ?_)
    (F.keeps up) (N.grown up) (Nat.ne_of_lt F.ns.lt) (next_is_new F) (fun p hp => Nat.ne_of_lt (Heap.lt_size (N p hp).1)) S (R _ ⟨_, rfl⟩) ?_
  · show b < (s₁.heap.push _).objs.size
    rw [Heap.size_push]
    rcases List.mem_cons.mp hb with rfl | hb
    · exact Nat.lt_succ_self _
    · rw [List.mem_singleton.mp hb]; exact Nat.lt_succ_of_lt hlt
  · intro D C h tk m' ys news' F' N' o1 hn hC₀ hD₀ hCL hDL hCD offC fin
    refine ⟨m', hn, fun h'' hs'' => fin D h'' tk (F'.change hs'' hCL hC₀) (fun p hp => ?_) o1⟩
    refine ⟨hs''.extBut _ _ ?_ (N' p hp).1, (N' p hp).2⟩
    rcases List.mem_cons.mp hp with rfl | hp
    · exact Ne.symm hCD
    · exact offC p hp
end
end Mine
section
local macro_rules | `(tactic| walk_at "m_room") => `(tactic| ((try simp only [depth_in1, depth_deeper, Around.deeper, Around.mark, depth_under_make]); omega))
local macro_rules | `(tactic| walk_at "m_units") => `(tactic| ((try simp only [units_in1, units_deeper, Around.mark_units]); omega))
local macro_rules | `(tactic| k_units) => `(tactic| walk_at "m_units")
local macro_rules | `(tactic| k_room) => `(tactic| walk_at "m_room")
local macro_rules | `(tactic| walk_at "m_cell") => `(tactic| exact Mine.isCell_of (by k_asm) (by k_mem) (by k_mem))
local macro_rules | `(tactic| walk_at "m_end") => `(tactic| ((try dsimp only); refine' Mine.endK_ ?F ?N ?S ?_; (case F => k_asm); (case N => k_asm); (case S => k_sub)))
local macro_rules | `(tactic| walk_at "getMethod ref") => `(tactic| (k_here; (with_reducible show wpAny _ _ (getMethod (Value.ref _) (PySem.Str.ofString "__class__") _) _ _ _); k_dflt (refine' Mine.meth_class ?F ?X ?I ?_; (case F => k_asm); (case X => k_asm); (case I => k_inst); k_whole)))
local macro_rules | `(tactic| walk_at "eval Name") => `(tactic| (k_here; (with_reducible show wpAny _ _ (eval _ (envOf _ _ _ _ _)) _ _ _); k_dflt (refine' ld ?k1 ?k2 ?_; (case k1 => k_asm); (case k2 => exact rfl); k_whole)))
local macro_rules | `(tactic| walk_at "getMethod ref") => `(tactic| (k_here; k_dflt (refine' method_inst ?k1 ?k2 ?k3 ?k4 ?k5 ?k6 ?k7 ?_; (case k1 => k_asm); (case k2 => k_asm); (case k3 => k_inst); (case k4 => k_is); (case k5 => k_is); (case k6 => k_is); (case k7 => k_get); k_whole)))
local macro_rules | `(tactic| walk_at "callWith ref") => `(tactic| (k_here; (with_reducible show wpAny _ _ (PySem.callWith _ (Value.ref _) _ (backTo _ (starEach [] _)) []) _ _ _); k_dflt (refine' callWith_K0 ?k1 ?k2 ?_; (case k1 => k_in); (case k2 => k_is); k_whole)))
local macro_rules | `(tactic| walk_at "getAttr ref") => `(tactic| (k_here; k_dflt (refine' get_own ?k1 ?k2 ?k3 ?k4 ?k5 ?k6 ?k7 ?k8 ?k9 ?_; (case k1 => k_asm); (case k2 => k_asm); (case k3 => k_inst); (case k4 => k_is); (case k5 => k_is); (case k6 => k_is); (case k7 => k_is); (case k8 => k_get); (case k9 => k_handed); k_whole)))
local macro_rules | `(tactic| walk_at "binaryOp Pow int int") => `(tactic| (k_here; (with_reducible refine pow_int_small ?a ?b ?c ?_); (case a => omega); (case b => omega); (case c => first | decide | omega)))
local macro_rules | `(tactic| walk_at "binaryOp LShift int int") => `(tactic| (k_here; (with_reducible refine lshift_int_small ?a ?b ?c ?_); (case a => omega); (case b => omega); (case c => first | decide | omega)))
local macro_rules | `(tactic| walk_at "call ref") => `(tactic| (k_here; (with_reducible show wpAny _ _ (call (Value.ref 425) _ _) _ _ _); refine' Mine.use_cell (f := 425) ?c (Mine.ct_mk _ _ _ ?v0 ?v1) ?F ?X ?N ?T ?P ?A ?U ?_; (case c => (refine' Mine.calls_of rfl ?e1; (case e1 => exact rfl))); (case F => k_asm); (case X => k_asm); (case N => k_asm); (case T => k_asm); (case P => trivial); (case v0 => first | assumption | omega); (case v1 => first | assumption | omega); (case A => walk_at "m_room"); (case U => walk_at "m_units"); k_whole; intro y' dy' hs' tk1' tn' h' tk'' F' N' O'; (try k_sweep); (try dsimp only)))
local macro_rules | `(tactic| walk_at "call ref") => `(tactic| (k_here; (with_reducible show wpAny _ _ (call (Value.ref 208) _ _) _ _ _); refine' Mine.use_int (f := 208) ?c (Mine.ct_lsb _ _ _) ?F ?X ?N ?T ?P ?A ?U ?_; (case c => (refine' Mine.calls_of rfl ?e1; (case e1 => exact rfl))); (case F => k_asm); (case X => k_asm); (case N => k_asm); (case T => k_asm); (case P => walk_at "m_cell"); (case A => walk_at "m_room"); (case U => walk_at "m_units"); k_whole; intro tk' h' tk'' F' N'; (try k_sweep); (try dsimp only)))
local macro_rules | `(tactic| walk_at "call ref") => `(tactic| (k_here; (with_reducible show wpAny _ _ (call (Value.ref 215) _ _) _ _ _); refine' Mine.use_int (f := 215) ?c (Mine.ct_face _ _ _) ?F ?X ?N ?T ?P ?A ?U ?_; (case c => (refine' Mine.calls_of rfl ?e1; (case e1 => exact rfl))); (case F => k_asm); (case X => k_asm); (case N => k_asm); (case T => k_asm); (case P => walk_at "m_cell"); (case A => walk_at "m_room"); (case U => walk_at "m_units"); k_whole; intro tk' h' tk'' F' N'; (try k_sweep); (try dsimp only)))
local macro_rules | `(tactic| walk_at "call ref") => `(tactic| (k_here; (with_reducible show wpAny _ _ (call (Value.ref 222) _ _) _ _ _); refine' Mine.use_int (f := 222) ?c (Mine.ct_pos _ _ _) ?F ?X ?N ?T ?P ?A ?U ?_; (case c => (refine' Mine.calls_of rfl ?e1; (case e1 => exact rfl))); (case F => k_asm); (case X => k_asm); (case N => k_asm); (case T => k_asm); (case P => walk_at "m_cell"); (case A => walk_at "m_room"); (case U => walk_at "m_units"); k_whole; intro tk' h' tk'' F' N'; (try k_sweep); (try dsimp only)))
local macro_rules | `(tactic| walk_at "call ref") => `(tactic| (k_here; (with_reducible show wpAny _ _ (call (Value.ref 229) _ _) _ _ _); refine' Mine.use_bool (f := 229) ?c (Mine.ct_is_leaf _ _ _) ?F ?X ?N ?T ?P ?A ?U ?_; (case c => (refine' Mine.calls_of rfl ?e1; (case e1 => exact rfl))); (case F => k_asm); (case X => k_asm); (case N => k_asm); (case T => k_asm); (case P => walk_at "m_cell"); (case A => walk_at "m_room"); (case U => walk_at "m_units"); k_whole; intro h' tk'' F' N'; (try dsimp only [PySem.W.CmpBack]); (try k_sweep); (try dsimp only)))
local macro_rules | `(tactic| walk_at "call ref") => `(tactic| (k_here; (with_reducible show wpAny _ _ (call (Value.ref 149) _ _) _ _ _); refine' Mine.use_int (f := 149) ?c (Mine.ct_lsbl _ _ _ ?v0 ?v1) ?F ?X ?N ?T ?P ?A ?U ?_; (case c => (refine' Mine.calls_of rfl ?e1; (case e1 => exact rfl))); (case F => k_asm); (case X => k_asm); (case N => k_asm); (case T => k_asm); (case P => trivial); (case v0 => first | assumption | omega); (case v1 => first | assumption | omega); (case A => walk_at "m_room"); (case U => walk_at "m_units"); k_whole; intro tk' h' tk'' F' N'; (try k_sweep); (try dsimp only)))
local macro_rules | `(tactic| walk_at "call ref") => `(tactic| (k_here; (with_reducible show wpAny _ _ (call (Value.ref _) _ _) _ _ _); refine' Mine.use_int (f := 149) ?c (Mine.ct_lsbl _ _ _ ?v0 ?v1) ?F ?X ?N ?T ?P ?A ?U ?_; (case c => (refine' Mine.calls_meth' ?q2 ?N2 rfl ?e2; (case N2 => k_asm); (case q2 => k_mem); (case e2 => exact rfl))); (case F => k_asm); (case X => k_asm); (case N => k_asm); (case T => k_asm); (case P => trivial); (case v0 => first | assumption | omega); (case v1 => first | assumption | omega); (case A => walk_at "m_room"); (case U => walk_at "m_units"); k_whole; intro tk' h' tk'' F' N'; (try k_sweep); (try dsimp only)))
local macro_rules | `(tactic| walk_at "call ref") => `(tactic| (k_here; (with_reducible show wpAny _ _ (call (Value.ref 187) _ _) _ _ _); refine' Mine.use_bool (f := 187) ?c (Mine.ct_is_face _ _ _) ?F ?X ?N ?T ?P ?A ?U ?_; (case c => (refine' Mine.calls_of rfl ?e1; (case e1 => exact rfl))); (case F => k_asm); (case X => k_asm); (case N => k_asm); (case T => k_asm); (case P => walk_at "m_cell"); (case A => walk_at "m_room"); (case U => walk_at "m_units"); k_whole; intro h' tk'' F' N'; (try dsimp only [PySem.W.CmpBack]); (try k_sweep); (try dsimp only)))
local macro_rules | `(tactic| walk_at "call ref") => `(tactic| (k_here; (with_reducible show wpAny _ _ (call (Value.ref 201) _ _) _ _ _); refine' Mine.use_bool (f := 201) ?c (Mine.ct_is_valid _ _ _ ?v0) ?F ?X ?N ?T ?P ?A ?U ?_; (case c => (refine' Mine.calls_of rfl ?e1; (case e1 => exact rfl))); (case F => k_asm); (case X => k_asm); (case N => k_asm); (case T => k_asm); (case P => walk_at "m_cell"); (case v0 => first | assumption | omega); (case A => walk_at "m_room"); (case U => walk_at "m_units"); k_whole; intro h' tk'' F' N'; (try dsimp only [PySem.W.CmpBack]); (try k_sweep); (try dsimp only)))
local macro_rules | `(tactic| walk_at "call ref") => `(tactic| (k_here; (with_reducible show wpAny _ _ (call (Value.ref 278) _ _) _ _ _); refine' Mine.use_cell (f := 278) ?c (Mine.ct_range_min _ _ _ ?v0) ?F ?X ?N ?T ?P ?A ?U ?_; (case c => (refine' Mine.calls_of rfl ?e1; (case e1 => exact rfl))); (case F => k_asm); (case X => k_asm); (case N => k_asm); (case T => k_asm); (case P => walk_at "m_cell"); (case v0 => first | assumption | omega); (case A => walk_at "m_room"); (case U => walk_at "m_units"); k_whole; intro y' dy' hs' tk1' tn' h' tk'' F' N' O'; (try k_sweep); (try dsimp only)))
local macro_rules | `(tactic| walk_at "call ref") => `(tactic| (k_here; (with_reducible show wpAny _ _ (call (Value.ref 285) _ _) _ _ _); refine' Mine.use_cell (f := 285) ?c (Mine.ct_range_max _ _ _ ?v0) ?F ?X ?N ?T ?P ?A ?U ?_; (case c => (refine' Mine.calls_of rfl ?e1; (case e1 => exact rfl))); (case F => k_asm); (case X => k_asm); (case N => k_asm); (case T => k_asm); (case P => walk_at "m_cell"); (case v0 => first | assumption | omega); (case A => walk_at "m_room"); (case U => walk_at "m_units"); k_whole; intro y' dy' hs' tk1' tn' h' tk'' F' N' O'; (try k_sweep); (try dsimp only)))
local macro_rules | `(tactic| walk_at "call ref") => `(tactic| (k_here; (with_reducible show wpAny _ _ (call (Value.ref 71) _ _) _ _ _); refine' Mine.use_bool (f := 71) ?c (Mine.ct_lt _ _ _ _ _) ?F ?X ?N ?T ?P ?A ?U ?_; (case c => (refine' Mine.calls_of rfl ?e1; (case e1 => exact rfl))); (case F => k_asm); (case X => k_asm); (case N => k_asm); (case T => k_asm); (case P => exact ⟨by walk_at "m_cell", by walk_at "m_cell"⟩); (case A => walk_at "m_room"); (case U => walk_at "m_units"); k_whole; intro h' tk'' F' N'; (try dsimp only [PySem.W.CmpBack]); (try k_sweep); (try dsimp only)))
local macro_rules | `(tactic| walk_at "call ref") => `(tactic| (k_here; (with_reducible show wpAny _ _ (call (Value.ref 92) _ _) _ _ _); refine' Mine.use_bool (f := 92) ?c (Mine.ct_ge _ _ _ _ _) ?F ?X ?N ?T ?P ?A ?U ?_; (case c => (refine' Mine.calls_of rfl ?e1; (case e1 => exact rfl))); (case F => k_asm); (case X => k_asm); (case N => k_asm); (case T => k_asm); (case P => exact ⟨by walk_at "m_cell", by walk_at "m_cell"⟩); (case A => walk_at "m_room"); (case U => walk_at "m_units"); k_whole; intro h' tk'' F' N'; (try dsimp only [PySem.W.CmpBack]); (try k_sweep); (try dsimp only)))
local macro_rules | `(tactic| walk_at "call ref") => `(tactic| (k_here; (with_reducible show wpAny _ _ (call (Value.ref 57) _ _) _ _ _); refine' Mine.use_bool (f := 57) ?c (Mine.ct_eq _ _ _ _ _) ?F ?X ?N ?T ?P ?A ?U ?_; (case c => (refine' Mine.calls_of rfl ?e1; (case e1 => exact rfl))); (case F => k_asm); (case X => k_asm); (case N => k_asm); (case T => k_asm); (case P => exact ⟨by walk_at "m_cell", by walk_at "m_cell"⟩); (case A => walk_at "m_room"); (case U => walk_at "m_units"); k_whole; intro h' tk'' F' N'; (try dsimp only [PySem.W.CmpBack]); (try k_sweep); (try dsimp only)))
local macro_rules | `(tactic| walk_at "call ref") => `(tactic| (k_here; (with_reducible show wpAny _ _ (call (Value.ref 78) _ _) _ _ _); refine' Mine.use_bool (f := 78) ?c (Mine.ct_le _ _ _ _ _) ?F ?X ?N ?T ?P ?A ?U ?_; (case c => (refine' Mine.calls_of rfl ?e1; (case e1 => exact rfl))); (case F => k_asm); (case X => k_asm); (case N => k_asm); (case T => k_asm); (case P => exact ⟨by walk_at "m_cell", by walk_at "m_cell"⟩); (case A => walk_at "m_room"); (case U => walk_at "m_units"); k_whole; intro h' tk'' F' N'; (try dsimp only [PySem.W.CmpBack]); (try k_sweep); (try dsimp only)))
local macro_rules | `(tactic| walk_at "call ref") => `(tactic| (k_here; (with_reducible show wpAny _ _ (call (Value.ref 64) _ _) _ _ _); refine' Mine.use_bool (f := 64) ?c (Mine.ct_ne _ _ _ _ _) ?F ?X ?N ?T ?P ?A ?U ?_; (case c => (refine' Mine.calls_of rfl ?e1; (case e1 => exact rfl))); (case F => k_asm); (case X => k_asm); (case N => k_asm); (case T => k_asm); (case P => exact ⟨by walk_at "m_cell", by walk_at "m_cell"⟩); (case A => walk_at "m_room"); (case U => walk_at "m_units"); k_whole; intro h' tk'' F' N'; (try dsimp only [PySem.W.CmpBack]); (try k_sweep); (try dsimp only)))
local macro_rules | `(tactic| walk_at "call ref") => `(tactic| (k_here; (with_reducible show wpAny _ _ (call (Value.ref 236) _ _) _ _ _); refine' Mine.use_int (f := 236) ?c (Mine.ct_level _ _ _ _ ?v0) ?F ?X ?N ?T ?P ?A ?U ?_; (case c => (refine' Mine.calls_of rfl ?e1; (case e1 => exact rfl))); (case F => k_asm); (case X => k_asm); (case N => k_asm); (case T => k_asm); (case P => walk_at "m_cell"); (case v0 => first | assumption | omega); (case A => walk_at "m_room"); (case U => walk_at "m_units"); k_whole; intro tk' h' tk'' F' N'; (try k_sweep); (try dsimp only)))
local macro_rules | `(tactic| walk_at "call ref") => `(tactic| (k_here; (with_reducible show wpAny _ _ (call (Value.ref 173) _ _) _ _ _); refine' Mine.use_bool (f := 173) ?c (Mine.ct_contains _ _ _ _ _ ?v0 ?v1) ?F ?X ?N ?T ?P ?A ?U ?_; (case c => (refine' Mine.calls_of rfl ?e1; (case e1 => exact rfl))); (case F => k_asm); (case X => k_asm); (case N => k_asm); (case T => k_asm); (case P => exact ⟨by walk_at "m_cell", by walk_at "m_cell"⟩); (case v0 => first | assumption | omega); (case v1 => first | assumption | omega); (case A => walk_at "m_room"); (case U => walk_at "m_units"); k_whole; intro h' tk'' F' N'; (try dsimp only [PySem.W.CmpBack]); (try k_sweep); (try dsimp only)))
local macro_rules | `(tactic| walk_at "call ref") => `(tactic| (k_here; (with_reducible show wpAny _ _ (call (Value.ref 180) _ _) _ _ _); refine' Mine.use_bool (f := 180) ?c (Mine.ct_intersects _ _ _ _ _ ?v0 ?v1) ?F ?X ?N ?T ?P ?A ?U ?_; (case c => (refine' Mine.calls_of rfl ?e1; (case e1 => exact rfl))); (case F => k_asm); (case X => k_asm); (case N => k_asm); (case T => k_asm); (case P => exact ⟨by walk_at "m_cell", by walk_at "m_cell"⟩); (case v0 => first | assumption | omega); (case v1 => first | assumption | omega); (case A => walk_at "m_room"); (case U => walk_at "m_units"); k_whole; intro h' tk'' F' N'; (try dsimp only [PySem.W.CmpBack]); (try k_sweep); (try dsimp only)))
local macro_rules | `(tactic| walk_at "call ref") => `(tactic| (k_here; (with_reducible show wpAny _ _ (call (Value.ref 159) _ _) _ _ _); refine' Mine.use_cell (f := 159) ?c (Mine.ct_parent1 _ _ _ _ _ _ ?v0 ?v1 ?v2 ?v3 ?v4 ?v5 ?v6) ?F ?X ?N ?T ?P ?A ?U ?_; (case c => (refine' Mine.calls_of rfl ?e1; (case e1 => exact rfl))); (case F => k_asm); (case X => k_asm); (case N => k_asm); (case T => k_asm); (case P => walk_at "m_cell"); (case v0 => first | assumption | omega); (case v1 => first | assumption | omega); (case v2 => first | assumption | omega); (case v3 => first | assumption | omega); (case v4 => first | assumption | omega); (case v5 => first | assumption | omega); (case v6 => first | assumption | omega); (case A => walk_at "m_room"); (case U => walk_at "m_units"); k_whole; intro y' dy' hs' tk1' tn' h' tk'' F' N' O'; (try k_sweep); (try dsimp only)))
local macro_rules | `(tactic| k_ne) => `(tactic| first | ((refine' Mine.off_a ?o ?m); (case o => with_reducible assumption); (case m => k_mem)) | ((refine' Mine.off_b ?o ?m); (case o => with_reducible assumption); (case m => k_mem)))
local macro_rules | `(tactic| walk_at "call ref") => `(tactic| (k_here; (with_reducible show wpAny _ _ (call (Value.ref 436) _ _) _ _ _); refine' Mine.use_int (f := 436) ?c (Mine.ct_law_id _ _ _ _ _ ?v0 ?v1 ?v2 ?v3) ?F ?X ?N ?T ?P ?A ?U ?_; (case c => (refine' Mine.calls_of rfl ?e1; (case e1 => exact rfl))); (case F => k_asm); (case X => k_asm); (case N => k_asm); (case T => k_asm); (case P => trivial); (case v0 => first | assumption | omega); (case v1 => first | assumption | omega); (case v2 => first | assumption | omega); (case v3 => first | assumption | omega); (case A => walk_at "m_room"); (case U => walk_at "m_units"); k_whole; intro tk' h' tk'' F' N'; (try k_sweep); (try dsimp only)))
local macro_rules | `(tactic| walk_at "execs cons") => `(tactic| (k_here; refine wpAny_execs_cons ?_))
local macro_rules | `(tactic| walk_at "execs nil") => `(tactic| (k_here; refine wpAny_execs_nil ?_))
local macro_rules | `(tactic| walk_at "binaryOp FloorDiv int int") => `(tactic| (k_here; (with_reducible refine floordiv_int ?kbe ?_ (Or.inl (PyProof.noPylong_of_log2 (Mine.np_small ?k0 ?k1)))); (case kbe => omega); (case k0 => omega); (case k1 => omega)))
local macro_rules | `(tactic| walk_at "call ref") => `(tactic| (k_here; (with_reducible show wpAny _ _ (call (Value.ref 194) _ _) _ _ _); refine' Mine.use_int (f := 194) ?c (Mine.ct_id _ _ _) ?F ?X ?N ?T ?P ?A ?U ?_; (case c => (refine' Mine.calls_of rfl ?e1; (case e1 => exact rfl))); (case F => k_asm); (case X => k_asm); (case N => k_asm); (case T => k_asm); (case P => walk_at "m_cell"); (case A => walk_at "m_room"); (case U => walk_at "m_units"); k_whole; intro tk' h' tk'' F' N'; (try k_sweep); (try dsimp only)))
local macro_rules | `(tactic| walk_at "call ref") => `(tactic| (k_here; (with_reducible show wpAny _ _ (call (Value.ref 173) _ _) _ _ _); refine' Mine.use_bool (f := 173) ?c (Mine.ct_eqB (Mine.ct_contains _ _ _ _ _ ?v0 ?v1) ?v2) ?F ?X ?N ?T ?P ?A ?U ?_; (case c => (refine' Mine.calls_of rfl ?e1; (case e1 => exact rfl))); (case F => k_asm); (case X => k_asm); (case N => k_asm); (case T => k_asm); (case P => exact ⟨by walk_at "m_cell", by walk_at "m_cell"⟩); (case v0 => assumption); (case v1 => assumption); (case v2 => assumption); (case A => walk_at "m_room"); (case U => walk_at "m_units"); k_whole; intro h' tk'' F' N'; (try dsimp only [PySem.W.CmpBack]); (try k_sweep); (try dsimp only)))
local macro_rules | `(tactic| walk_at "call ref") => `(tactic| (k_here; (with_reducible show wpAny _ _ (call (Value.ref 180) _ _) _ _ _); refine' Mine.use_bool (f := 180) ?c (Mine.ct_eqB (Mine.ct_intersects _ _ _ _ _ ?v0 ?v1) ?v2) ?F ?X ?N ?T ?P ?A ?U ?_; (case c => (refine' Mine.calls_of rfl ?e1; (case e1 => exact rfl))); (case F => k_asm); (case X => k_asm); (case N => k_asm); (case T => k_asm); (case P => exact ⟨by walk_at "m_cell", by walk_at "m_cell"⟩); (case v0 => assumption); (case v1 => assumption); (case v2 => assumption); (case A => walk_at "m_room"); (case U => walk_at "m_units"); k_whole; intro h' tk'' F' N'; (try dsimp only [PySem.W.CmpBack]); (try k_sweep); (try dsimp only)))
local macro_rules | `(tactic| walk_at "call ref") => `(tactic| (k_here; (with_reducible show wpAny _ _ (call (Value.ref 278) _ _) _ _ _); refine' Mine.use_cell (f := 278) ?c (Mine.ct_eqC (Mine.ct_range_min _ _ _ ?v0) ?v1) ?F ?X ?N ?T ?P ?A ?U ?_; (case c => (refine' Mine.calls_of rfl ?e1; (case e1 => exact rfl))); (case F => k_asm); (case X => k_asm); (case N => k_asm); (case T => k_asm); (case P => walk_at "m_cell"); (case v0 => assumption); (case v1 => assumption); (case A => walk_at "m_room"); (case U => walk_at "m_units"); k_whole; intro y' dy' hs' tk1' tn' h' tk'' F' N' O'; (try k_sweep); (try dsimp only)))
local macro_rules | `(tactic| walk_at "call ref") => `(tactic| (k_here; (with_reducible show wpAny _ _ (call (Value.ref 285) _ _) _ _ _); refine' Mine.use_cell (f := 285) ?c (Mine.ct_eqC (Mine.ct_range_max _ _ _ ?v0) ?v1) ?F ?X ?N ?T ?P ?A ?U ?_; (case c => (refine' Mine.calls_of rfl ?e1; (case e1 => exact rfl))); (case F => k_asm); (case X => k_asm); (case N => k_asm); (case T => k_asm); (case P => walk_at "m_cell"); (case v0 => assumption); (case v1 => assumption); (case A => walk_at "m_room"); (case U => walk_at "m_units"); k_whole; intro y' dy' hs' tk1' tn' h' tk'' F' N' O'; (try k_sweep); (try dsimp only)))
local macro_rules | `(tactic| walk_at "m_sub") => `(tactic| (intro p hp; repeat (first | exact hp | refine List.Mem.tail _ ?_)))
-- part L4
section
namespace Mine
open PySem.W
theorem bne_dec {p q : Prop} [Decidable p] [Decidable q] (h : (decide p != decide q) = true) : ¬ (p ↔ q) := fun e => by
  have : decide p = decide q := by
    by_cases hp : p
    · rw [decide_eq_true hp, decide_eq_true (e.mp hp)]
    · rw [decide_eq_false hp, decide_eq_false (fun hq => hp (e.mpr hq))]
  rw [this, bne_self_eq_false] at h
  cases h
theorem LI.again {P : LP} {h₀ : Heap} {fv : Option Value} {o6 o7 o8 : Obj} {s : Shared} {h' : Heap} {tk' : Nat} {news : List (Addr × Obj)} (I : LI P h₀ fv o6 o7 o8 s) (F : Fr h₀ P.L h' (mF P fv)) (N : News h₀ P.L h' news) (hs : ∀ p ∈ ledF P o6 o7 o8, p ∈ news) :
    LI P h₀ fv o6 o7 o8 { s with heap := h', toks := tk' } := ⟨F, fun q hq => N q (hs q hq), I.d1, I.d2, I.d3, I.d4, I.d5, I.d6, I.d7, I.d8, I.off1, I.off2, I.off3, I.g⟩
section
variable {w : World} {s : Shared} {h₀ : Heap} {mg mb : Str → Option Value} {p : Program} {loose : List Str} {Q : Flow → Shared → Prop} {E : Value → Shared → Prop} {P : LP} {fv : Option Value} {o6 o7 o8 : Obj}
theorem s12 (I : LI P h₀ fv o6 o7 o8 s) (X : (hd.heap_39 w.params).In h₀) (T : TopRead p loose mg mb h₀) (V : Vd P.n) (W : Vd P.k) (e1 : decide (P.n - (lw P.n - 1) ≤ P.k ∧ P.k ≤ P.n + (lw P.n - 1)) = decide (P.lo ≤ P.st ∧ P.sp ≤ P.hi)) (e2 : decide (P.k - (lw P.k - 1) ≤ P.n ∧ P.n ≤ P.k + (lw P.k - 1)) = decide (P.st ≤ P.lo ∧ P.hi ≤ P.sp))
    (h : ∀ h' tk', LI P h₀ fv o6 o7 o8 { s with heap := h', toks := tk' } → Q .next { s with heap := h', toks := tk' }) :
    wpAny (model PR w) (lawA P.L P.a P.cd) (exec (st 12) (lawEnv P.L P.a P.cd)) Q E s := by
  have hA := lawA_d P.L P.a P.cd
  have hu := lawA_u P.L P.a P.cd
  obtain ⟨F, N, d1, d2, d3, ⟨t4, d4⟩, d5, d6, d7, d8, off1, off2, off3, g⟩ := id I
  unfold lawEnv
  refine exec_is (st' := ?S) ?e ?_
  case e => conv => lhs; whnf
  k_steps
  all_goals (try k_data)
  all_goals (first
    | exact h _ _ (LI.again I (by k_asm) (by k_asm) (by walk_at "m_sub"))
    | ((with_reducible rename ((decide _ != decide _) = true) => hb); (have hb' := bne_dec hb); exfalso; omega)
    | (exfalso; clear h I; simp_all; done)
    | (exfalso; clear h I; simp_all; omega))
theorem s13 (I : LI P h₀ fv o6 o7 o8 s) (X : (hd.heap_39 w.params).In h₀) (T : TopRead p loose mg mb h₀) (V : Vd P.n) (W : Vd P.k) (e1 : decide (P.k - (lw P.k - 1) ≤ P.n + (lw P.n - 1) ∧ P.n - (lw P.n - 1) ≤ P.k + (lw P.k - 1)) = decide (P.lo < P.sp ∧ P.st < P.hi)) (e2 : decide (P.n - (lw P.n - 1) ≤ P.k + (lw P.k - 1) ∧ P.k - (lw P.k - 1) ≤ P.n + (lw P.n - 1)) = decide (P.lo < P.sp ∧ P.st < P.hi))
    (h : ∀ h' tk', LI P h₀ fv o6 o7 o8 { s with heap := h', toks := tk' } → Q .next { s with heap := h', toks := tk' }) :
    wpAny (model PR w) (lawA P.L P.a P.cd) (exec (st 13) (lawEnv P.L P.a P.cd)) Q E s := by
  have hA := lawA_d P.L P.a P.cd
  have hu := lawA_u P.L P.a P.cd
  obtain ⟨F, N, d1, d2, d3, ⟨t4, d4⟩, d5, d6, d7, d8, off1, off2, off3, g⟩ := id I
  unfold lawEnv
  refine exec_is (st' := ?S) ?e ?_
  case e => conv => lhs; whnf
  k_steps
  all_goals (try k_data)
  all_goals (first
    | exact h _ _ (LI.again I (by k_asm) (by k_asm) (by walk_at "m_sub"))
    | ((with_reducible rename ((decide _ != decide _) = true) => hb); (have hb' := bne_dec hb); exfalso; omega)
    | (exfalso; clear h I; simp_all; done)
    | (exfalso; clear h I; simp_all; omega))
theorem s14 (I : LI P h₀ fv o6 o7 o8 s) (X : (hd.heap_39 w.params).In h₀) (T : TopRead p loose mg mb h₀) (V : Vd P.n) (e1 : P.n - (lw P.n - 1) = 2 * P.lo + 1) (e2 : P.n + (lw P.n - 1) = 2 * P.hi - 1)
    (h : ∀ h' tk', LI P h₀ fv o6 o7 o8 { s with heap := h', toks := tk' } → Q .next { s with heap := h', toks := tk' }) :
    wpAny (model PR w) (lawA P.L P.a P.cd) (exec (st 14) (lawEnv P.L P.a P.cd)) Q E s := by
  have hA := lawA_d P.L P.a P.cd
  have hu := lawA_u P.L P.a P.cd
  obtain ⟨F, N, d1, d2, d3, ⟨t4, d4⟩, d5, d6, d7, d8, off1, off2, off3, g⟩ := id I
  unfold lawEnv
  refine exec_is (st' := ?S) ?e ?_
  case e => conv => lhs; whnf
  k_steps
  all_goals (try k_data)
  all_goals (first
    | exact h _ _ (LI.again I (by k_asm) (by k_asm) (by walk_at "m_sub"))
    | ((with_reducible rename ((decide _ != decide _) = true) => hb); (have hb' := bne_dec hb); exfalso; omega)
    | (exfalso; clear h I; simp_all; done)
    | (exfalso; clear h I; simp_all; omega))
end
end Mine
end
-- part L5
section
namespace Mine
open PySem.W
structure PK (n lo lv kv : Int) : Prop where
  k0 : 0 ≤ kv
  k1 : kv ≤ lv
  b0 : 0 ≤ Builtin.bitOr (Builtin.bitAnd n (-(lz kv))) (lz kv)
  b1 : Builtin.bitOr (Builtin.bitAnd n (-(lz kv))) (lz kv) < 18446744073709551615
  e : Builtin.bitOr (Builtin.bitAnd n (-(lz kv))) (lz kv) = (2 * lo.fdiv (4 ^ (30 - kv).toNat) + 1) * 4 ^ (30 - kv).toNat
  q0 : 0 ≤ lo.fdiv (4 ^ (30 - kv).toNat)
  q1 : lo.fdiv (4 ^ (30 - kv).toNat) ≤ 6917529027641081856
def AllPK (n lo lv : Int) (ks : List Int) : Prop := ∀ kv ∈ ks, PK n lo lv kv
theorem AllPK.get {n lo lv kv : Int} {ks : List Int} (A : AllPK n lo lv ks) (h : kv ∈ ks) : PK n lo lv kv := A kv h
theorem AllPK.bnd {n lo lv kv : Int} {ks : List Int} (A : AllPK n lo lv ks) (h : kv ∈ ks) (b : lv ≤ 30) : 0 ≤ kv ∧ kv ≤ 30 ∧ 1 ≤ (4 : Int) ^ (30 - kv).toNat ∧ (4 : Int) ^ (30 - kv).toNat ≤ 1152921504606846976 ∧ 0 ≤ lo.fdiv (4 ^ (30 - kv).toNat) ∧ lo.fdiv (4 ^ (30 - kv).toNat) ≤ 6917529027641081856 := by
  have K := A kv h
  have := K.k0
  have := K.k1
  exact ⟨K.k0, by omega, p4_pos _, p4_30 (by omega), K.q0, K.q1⟩
theorem ct_par (w : World) (x : Addr) (n lo lv kv : Int) (t : Tok) (V : Vd n) (W : Lv n lv) (b : lv ≤ 30) (K : PK n lo lv kv) : Ct w 6 159 [.ref x, .int kv t] (fun g h => IsCell g h x n) (fun h h' v => NewC h h' v ((2 * lo.fdiv (4 ^ (30 - kv).toNat) + 1) * 4 ^ (30 - kv).toNat)) :=
  ct_eqC (ct_parent1 w x n kv lv t V W K.b0 K.b1 K.k0 K.k1 b) K.e
end Mine
local macro_rules | `(tactic| walk_at "m_pk") => `(tactic| first | omega | exact (Mine.AllPK.bnd (by assumption) (by assumption) (by assumption)).1 | exact (Mine.AllPK.bnd (by assumption) (by assumption) (by assumption)).2.1 | exact (Mine.AllPK.bnd (by assumption) (by assumption) (by assumption)).2.2.2.2.1 | exact (Mine.AllPK.bnd (by assumption) (by assumption) (by assumption)).2.2.2.2.2 | ((have kb' := Mine.AllPK.bnd (by assumption) (by assumption) (by assumption)); omega))
local macro_rules | `(tactic| walk_at "binaryOp Pow int int") => `(tactic| (k_here; (with_reducible refine pow_int_small ?a ?b ?c ?_); (case a => walk_at "m_pk"); (case b => walk_at "m_pk"); (case c => decide)))
local macro_rules | `(tactic| walk_at "binaryOp FloorDiv int int") => `(tactic| (k_here; (with_reducible refine floordiv_int ?kbe ?_ (Or.inl (PyProof.noPylong_of_log2 (Mine.np_small ?k0 ?k1)))); (case kbe => walk_at "m_pk"); (case k0 => walk_at "m_pk"); (case k1 => walk_at "m_pk")))
local macro_rules | `(tactic| walk_at "call ref") => `(tactic| (k_here; (with_reducible show wpAny _ _ (call (Value.ref 436) _ _) _ _ _); refine' Mine.use_int (f := 436) ?c (Mine.ct_law_id _ _ _ _ _ ?v0 ?v1 ?v2 ?v3) ?F ?X ?N ?T ?P ?A ?U ?_; (case c => (refine' Mine.calls_of rfl ?e1; (case e1 => exact rfl))); (case F => k_asm); (case X => k_asm); (case N => k_asm); (case T => k_asm); (case P => trivial); (case v0 => first | assumption | walk_at "m_pk"); (case v1 => first | assumption | walk_at "m_pk"); (case v2 => first | assumption | walk_at "m_pk"); (case v3 => first | assumption | walk_at "m_pk"); (case A => walk_at "m_room"); (case U => walk_at "m_units"); k_whole; intro tk' h' tk'' F' N'; (try k_sweep); (try dsimp only)))
local macro_rules | `(tactic| walk_at "call ref") => `(tactic| (k_here; (with_reducible show wpAny _ _ (call (Value.ref 159) _ _) _ _ _); refine' Mine.use_cell (f := 159) ?c (Mine.ct_par _ _ _ _ _ _ _ ?v0 ?v1 ?v2 ?v3) ?F ?X ?N ?T ?P ?A ?U ?_; (case c => (refine' Mine.calls_of rfl ?e1; (case e1 => exact rfl))); (case F => k_asm); (case X => k_asm); (case N => k_asm); (case T => k_asm); (case P => walk_at "m_cell"); (case v0 => first | assumption | omega); (case v1 => first | assumption | omega); (case v2 => first | assumption | omega); (case v3 => first | assumption | exact Mine.AllPK.get (by assumption) (by assumption)); (case A => walk_at "m_room"); (case U => walk_at "m_units"); k_whole; intro y' dy' hs' tk1' tn' h' tk'' F' N' O'; (try k_sweep); (try dsimp only)))
namespace Mine
open PySem.W
section
variable {w : World} {s : Shared} {h₀ : Heap} {mg mb : Str → Option Value} {p : Program} {loose : List Str} {Q : Flow → Shared → Prop} {E : Value → Shared → Prop} {P : LP} {fv : Option Value} {o6 o7 o8 : Obj}
theorem s15 (I : LI P h₀ fv o6 o7 o8 s) (X : (hd.heap_39 w.params).In h₀) (T : TopRead p loose mg mb h₀) (V : Vd P.n) (W : Lv P.n P.lv) (hl0 : 0 ≤ P.lv) (hl : P.lv ≤ 30) (K : AllPK P.n P.lo P.lv [0, P.hv, P.lv, P.mn])
    (h : ∀ h' tk', LI P h₀ fv o6 o7 o8 { s with heap := h', toks := tk' } → Q .next { s with heap := h', toks := tk' }) :
    wpAny (model PR w) (lawA P.L P.a P.cd) (exec (st 15) (lawEnv P.L P.a P.cd)) Q E s := by
  have hA := lawA_d P.L P.a P.cd
  have hu := lawA_u P.L P.a P.cd
  obtain ⟨F, N, d1, d2, d3, ⟨t4, d4⟩, d5, d6, d7, d8, off1, off2, off3, g⟩ := id I
  unfold lawEnv
  refine exec_is (st' := ?S) ?e ?_
  case e => conv => lhs; whnf
  k_steps
  all_goals (try k_data)
  all_goals (first
    | exact h _ _ (LI.again I (by k_asm) (by k_asm) (by walk_at "m_sub"))
    | ((with_reducible rename ((decide _ != decide _) = true) => hb); (have hb' := bne_dec hb); exfalso; omega)
    | (exfalso; clear h I; simp_all; done)
    | (exfalso; clear h I; simp_all; omega))
end
end Mine
end
-- part L6
section
namespace Mine
open PySem.W
structure P0K (n pl lv : Int) : Prop where
  f : fcb n = false
  b0 : 0 ≤ Builtin.bitOr (Builtin.bitAnd n (-(lw n * 2 ^ Int.toNat 2))) (lw n * 2 ^ Int.toNat 2)
  b1 : Builtin.bitOr (Builtin.bitAnd n (-(lw n * 2 ^ Int.toNat 2))) (lw n * 2 ^ Int.toNat 2) < 18446744073709551615
  h2 : 0 ≤ lw n
  h3 : lw n < 18446744073709551615
  e : Builtin.bitOr (Builtin.bitAnd n (-(lw n * 2 ^ Int.toNat 2))) (lw n * 2 ^ Int.toNat 2) = (2 * pl.fdiv 4 + 1) * 4 ^ (30 - (lv - 1)).toNat
  q0 : 0 ≤ pl.fdiv 4
  q1 : pl.fdiv 4 ≤ 6917529027641081856
theorem ct_par0 (w : World) (x : Addr) (n pl lv : Int) (V : Vd n) (K : P0K n pl lv) : Ct w 6 159 [.ref x] (fun g h => IsCell g h x n) (fun h h' v => NewC h h' v ((2 * pl.fdiv 4 + 1) * 4 ^ (30 - (lv - 1)).toNat)) :=
  ct_eqC (ct_parent0 w x n V K.f K.b0 K.b1 K.h2 K.h3) K.e
end Mine
local macro_rules | `(tactic| walk_at "call ref") => `(tactic| (k_here; (with_reducible show wpAny _ _ (call (Value.ref 159) _ _) _ _ _); refine' Mine.use_cell (f := 159) ?c (Mine.ct_par0 _ _ _ _ _ ?v0 ?v1) ?F ?X ?N ?T ?P ?A ?U ?_; (case c => (refine' Mine.calls_of rfl ?e1; (case e1 => exact rfl))); (case F => k_asm); (case X => k_asm); (case N => k_asm); (case T => k_asm); (case P => walk_at "m_cell"); (case v0 => first | assumption | omega); (case v1 => first | assumption | omega); (case A => walk_at "m_room"); (case U => walk_at "m_units"); k_whole; intro y' dy' hs' tk1' tn' h' tk'' F' N' O'; (try k_sweep); (try dsimp only)))
namespace Mine
open PySem.W
section
variable {w : World} {s : Shared} {h₀ : Heap} {mg mb : Str → Option Value} {p : Program} {loose : List Str} {Q : Flow → Shared → Prop} {E : Value → Shared → Prop} {P : LP} {fv : Option Value} {o6 o7 o8 : Obj}
theorem s16 (I : LI P h₀ fv o6 o7 o8 s) (X : (hd.heap_39 w.params).In h₀) (T : TopRead p loose mg mb h₀) (V : Vd P.n) (hl0 : 0 ≤ P.lv) (hl : P.lv ≤ 30) (K : 0 < P.lv → P0K P.n P.pl P.lv)
    (h : ∀ h' tk', LI P h₀ fv o6 o7 o8 { s with heap := h', toks := tk' } → Q .next { s with heap := h', toks := tk' }) :
    wpAny (model PR w) (lawA P.L P.a P.cd) (exec (st 16) (lawEnv P.L P.a P.cd)) Q E s := by
  have hA := lawA_d P.L P.a P.cd
  have hu := lawA_u P.L P.a P.cd
  obtain ⟨F, N, d1, d2, d3, ⟨t4, d4⟩, d5, d6, d7, d8, off1, off2, off3, g⟩ := id I
  unfold lawEnv
  refine exec_is (st' := ?S) ?e ?_
  case e => conv => lhs; whnf
  by_cases hz : 0 < P.lv
  · have K0 := K hz
    have K1 := K0.q0
    have K2 := K0.q1
    clear K
    k_steps
    all_goals (try k_data)
    all_goals (first
      | exact h _ _ (LI.again I (by k_asm) (by k_asm) (by walk_at "m_sub"))
      | ((with_reducible rename ((decide _ != decide _) = true) => hb); (have hb' := bne_dec hb); exfalso; omega)
      | (exfalso; clear h I; simp_all; done)
      | (exfalso; clear h I; simp_all; omega))
  · clear K
    k_steps
    all_goals (try k_data)
    all_goals (first
      | exact h _ _ (LI.again I (by k_asm) (by k_asm) (by walk_at "m_sub"))
      | ((with_reducible rename ((decide _ != decide _) = true) => hb); (have hb' := bne_dec hb); exfalso; omega)
      | (exfalso; clear h I; simp_all; done)
      | (exfalso; clear h I; simp_all; omega))
end
end Mine
end
-- part L7
section
namespace Mine
open PySem.W
structure CK (n lo hi lv kv : Int) : Prop where
  k0 : lv ≤ kv
  k1 : kv ≤ 30
  k2 : 0 ≤ kv
  b0 : 0 ≤ n - lw n + lz kv
  b1 : n - lw n + lz kv < 18446744073709551615
  b2 : 0 ≤ n + lw n + lz kv
  b3 : n + lw n + lz kv < 18446744073709551615
  e : n - lw n + lz kv = (2 * lo.fdiv (4 ^ (30 - kv).toNat) + 1) * 4 ^ (30 - kv).toNat
  e' : n + lw n + lz kv = (2 * hi.fdiv (4 ^ (30 - kv).toNat) + 1) * 4 ^ (30 - kv).toNat
  q0 : 0 ≤ lo.fdiv (4 ^ (30 - kv).toNat)
  q1 : lo.fdiv (4 ^ (30 - kv).toNat) ≤ 6917529027641081856
  q2 : 0 ≤ hi.fdiv (4 ^ (30 - kv).toNat)
  q3 : hi.fdiv (4 ^ (30 - kv).toNat) ≤ 6917529027641081856
theorem CK.p {n lo hi lv kv : Int} (K : CK n lo hi lv kv) : 1 ≤ (4 : Int) ^ (30 - kv).toNat ∧ (4 : Int) ^ (30 - kv).toNat ≤ 1152921504606846976 := by
  have := K.k2
  exact ⟨p4_pos _, p4_30 (by omega)⟩
theorem ct_cbk (w : World) (x : Addr) (n lo hi lv kv : Int) (t : Tok) (V : Vd n) (W : Lv n lv) (K : CK n lo hi lv kv) : Ct w 6 243 [.ref x, .int kv t] (fun g h => IsCell g h x n) (fun h h' v => NewC h h' v ((2 * lo.fdiv (4 ^ (30 - kv).toNat) + 1) * 4 ^ (30 - kv).toNat)) :=
  ct_eqC (ct_cb1 w x n kv lv t V W K.b0 K.b1 K.k0 K.k1 K.k2) K.e
theorem ct_cek (w : World) (x : Addr) (n lo hi lv kv : Int) (t : Tok) (V : Vd n) (W : Lv n lv) (K : CK n lo hi lv kv) : Ct w 6 250 [.ref x, .int kv t] (fun g h => IsCell g h x n) (fun h h' v => NewC h h' v ((2 * hi.fdiv (4 ^ (30 - kv).toNat) + 1) * 4 ^ (30 - kv).toNat)) :=
  ct_eqC (ct_ce1 w x n kv lv t V W K.b2 K.b3 K.k0 K.k1 K.k2) K.e'
theorem LI.again6 {P : LP} {h₀ : Heap} {fv : Option Value} {o6 o6' o7 o8 : Obj} {s : Shared} {h' : Heap} {tk' : Nat} {news : List (Addr × Obj)} (I : LI P h₀ fv o6 o7 o8 s) (F : Fr h₀ P.L h' (mF P fv)) (d : ∃ v, o6'.data = .cell v) (N : News h₀ P.L h' news) (hs : ∀ p ∈ ledF P o6' o7 o8, p ∈ news) :
    LI P h₀ fv o6' o7 o8 { s with heap := h', toks := tk' } := ⟨F, fun q hq => N q (hs q hq), I.d1, I.d2, I.d3, I.d4, I.d5, d, I.d7, I.d8, I.off1, I.off2, I.off3, I.g⟩
end Mine
local macro_rules | `(tactic| walk_at "call ref") => `(tactic| (k_here; (with_reducible show wpAny _ _ (call (Value.ref 243) _ _) _ _ _); refine' Mine.use_cell (f := 243) ?c (Mine.ct_cbk _ _ _ _ _ _ _ _ ?v0 ?v1 ?v2) ?F ?X ?N ?T ?P ?A ?U ?_; (case c => (refine' Mine.calls_of rfl ?e1; (case e1 => exact rfl))); (case F => k_asm); (case X => k_asm); (case N => k_asm); (case T => k_asm); (case P => walk_at "m_cell"); (case v0 => first | assumption | omega); (case v1 => first | assumption | omega); (case v2 => first | assumption | omega); (case A => walk_at "m_room"); (case U => walk_at "m_units"); k_whole; intro y' dy' hs' tk1' tn' h' tk'' F' N' O'; (try k_sweep); (try dsimp only)))
local macro_rules | `(tactic| walk_at "call ref") => `(tactic| (k_here; (with_reducible show wpAny _ _ (call (Value.ref 250) _ _) _ _ _); refine' Mine.use_cell (f := 250) ?c (Mine.ct_cek _ _ _ _ _ _ _ _ ?v0 ?v1 ?v2) ?F ?X ?N ?T ?P ?A ?U ?_; (case c => (refine' Mine.calls_of rfl ?e1; (case e1 => exact rfl))); (case F => k_asm); (case X => k_asm); (case N => k_asm); (case T => k_asm); (case P => walk_at "m_cell"); (case v0 => first | assumption | omega); (case v1 => first | assumption | omega); (case v2 => first | assumption | omega); (case A => walk_at "m_room"); (case U => walk_at "m_units"); k_whole; intro y' dy' hs' tk1' tn' h' tk'' F' N' O'; (try k_sweep); (try dsimp only)))
namespace Mine
open PySem.W
section
variable {w : World} {s : Shared} {h₀ : Heap} {mg mb : Str → Option Value} {p : Program} {loose : List Str} {Q : Flow → Shared → Prop} {E : Value → Shared → Prop} {P : LP} {fv : Option Value} {o6 o7 o8 : Obj}
theorem s19 (I : LI P h₀ fv o6 o7 o8 s) (X : (hd.heap_39 w.params).In h₀) (T : TopRead p loose mg mb h₀) (V : Vd P.n) (W : Lv P.n P.lv) (k1 : CK P.n P.lo P.hi P.lv P.lv) (k2 : CK P.n P.lo P.hi P.lv P.hw) (k3 : CK P.n P.lo P.hi P.lv 30) (k4 : CK P.n P.lo P.hi P.lv P.mx)
    (h : ∀ h' tk' o6', LI P h₀ fv o6' o7 o8 { s with heap := h', toks := tk' } → Q .next { s with heap := h', toks := tk' }) :
    wpAny (model PR w) (lawA P.L P.a P.cd) (exec (st 19) (lawEnv P.L P.a P.cd)) Q E s := by
  have hA := lawA_d P.L P.a P.cd
  have hu := lawA_u P.L P.a P.cd
  obtain ⟨F, N, d1, d2, d3, ⟨t4, d4⟩, d5, ⟨v6, d6⟩, d7, d8, off1, off2, off3, g⟩ := id I
  unfold lawEnv
  refine exec_is (st' := ?stx) ?e ?_
  case e => conv => lhs; whnf
  refine for_list (lawA_h _ _ _) I (ax := P.bl) (fun o6' => by k_mem) rfl rfl ?hev ?step h (fun _ => rfl) (fun _ _ => rfl)
  case hev =>
    intro Q' hQ
    walk1
    exact hQ
  case step =>
    intro i v h1 tk1 o6 J oI hx F1 d6 N1 hJ
    have hv : ∃ kv t, v = .int kv t ∧ CK P.n P.lo P.hi P.lv kv := by
      match i, hx with
      | 0, hx => cases hx; exact ⟨_, _, rfl, k1⟩
      | 1, hx => cases hx; exact ⟨_, _, rfl, k2⟩
      | 2, hx => cases hx; exact ⟨_, _, rfl, k3⟩
      | 3, hx => cases hx; exact ⟨_, _, rfl, k4⟩
      | n + 4, hx => simp at hx
    obtain ⟨kv, t, rfl, K⟩ := hv
    obtain ⟨v6, d6⟩ := d6
    clear F N d7 d8 h
    obtain ⟨p1, p1'⟩ := K.p
    obtain ⟨a1, b1, c1⟩ : _ ∧ _ ∧ _ := ⟨K.k0, K.k1, K.k2⟩
    obtain ⟨q1, r1, u1, w1⟩ : _ ∧ _ ∧ _ ∧ _ := ⟨K.q0, K.q1, K.q2, K.q3⟩
    k_steps
    all_goals (try k_data)
    all_goals (first
      | (exfalso; contradiction)
      | (refine' turnE ?tF ?td ?tN ?tS
         case tF => k_asm
         case tN => k_asm
         case tS => walk_at "m_sub"
         case td => exact ⟨_, by assumption⟩))
end
end Mine
end
-- part L8
section
namespace Mine
open PySem.W
theorem ct_faceE (w : World) (x : Addr) (n r : Int) (e : fc n = r) : Ct w 2 215 [.ref x] (fun g h => IsCell g h x n) (fun _ _ v => ∃ tk, v = .int r tk) := ct_eqI (ct_face w x n) e
theorem ct_posE (w : World) (x : Addr) (n r : Int) (e : psn n = r) : Ct w 2 222 [.ref x] (fun g h => IsCell g h x n) (fun _ _ v => ∃ tk, v = .int r tk) := ct_eqI (ct_pos w x n) e
theorem ct_lsbE (w : World) (x : Addr) (n r : Int) (e : lw n = r) : Ct w 2 208 [.ref x] (fun g h => IsCell g h x n) (fun _ _ v => ∃ tk, v = .int r tk) := ct_eqI (ct_lsb w x n) e
theorem ct_leafE (w : World) (x : Addr) (n : Int) (r : Bool) (e : lfb n = r) : Ct w 2 229 [.ref x] (fun g h => IsCell g h x n) (fun _ _ v => v = .bool r) := ct_eqB (ct_is_leaf w x n) e
theorem ct_faceFE (w : World) (x : Addr) (n : Int) (r : Bool) (e : fcb n = r) : Ct w 2 187 [.ref x] (fun g h => IsCell g h x n) (fun _ _ v => v = .bool r) := ct_eqB (ct_is_face w x n) e
theorem LI.again78 {P : LP} {h₀ : Heap} {fv : Option Value} {o6 o7 o8 o7' o8' : Obj} {s : Shared} {h' : Heap} {tk' : Nat} {news : List (Addr × Obj)} (I : LI P h₀ fv o6 o7 o8 s) (F : Fr h₀ P.L h' (mF P fv)) (d7 : ∃ v, o7'.data = .cell v) (d8 : ∃ v, o8'.data = .cell v) (N : News h₀ P.L h' news) (hs : ∀ p ∈ ledF P o6 o7' o8', p ∈ news) :
    LI P h₀ fv o6 o7' o8' { s with heap := h', toks := tk' } := ⟨F, fun q hq => N q (hs q hq), I.d1, I.d2, I.d3, I.d4, I.d5, I.d6, d7, d8, I.off1, I.off2, I.off3, I.g⟩
end Mine
local macro_rules | `(tactic| walk_at "call ref") => `(tactic| (k_here; (with_reducible show wpAny _ _ (call (Value.ref 215) _ _) _ _ _); refine' Mine.use_int (f := 215) ?c (Mine.ct_faceE _ _ _ _ ?v0) ?F ?X ?N ?T ?P ?A ?U ?_; (case c => (refine' Mine.calls_of rfl ?e1; (case e1 => exact rfl))); (case F => k_asm); (case X => k_asm); (case N => k_asm); (case T => k_asm); (case P => walk_at "m_cell"); (case v0 => first | assumption | omega); (case A => walk_at "m_room"); (case U => walk_at "m_units"); k_whole; intro tk' h' tk'' F' N'; (try k_sweep); (try dsimp only)))
local macro_rules | `(tactic| walk_at "call ref") => `(tactic| (k_here; (with_reducible show wpAny _ _ (call (Value.ref 222) _ _) _ _ _); refine' Mine.use_int (f := 222) ?c (Mine.ct_posE _ _ _ _ ?v0) ?F ?X ?N ?T ?P ?A ?U ?_; (case c => (refine' Mine.calls_of rfl ?e1; (case e1 => exact rfl))); (case F => k_asm); (case X => k_asm); (case N => k_asm); (case T => k_asm); (case P => walk_at "m_cell"); (case v0 => first | assumption | omega); (case A => walk_at "m_room"); (case U => walk_at "m_units"); k_whole; intro tk' h' tk'' F' N'; (try k_sweep); (try dsimp only)))
local macro_rules | `(tactic| walk_at "call ref") => `(tactic| (k_here; (with_reducible show wpAny _ _ (call (Value.ref 208) _ _) _ _ _); refine' Mine.use_int (f := 208) ?c (Mine.ct_lsbE _ _ _ _ ?v0) ?F ?X ?N ?T ?P ?A ?U ?_; (case c => (refine' Mine.calls_of rfl ?e1; (case e1 => exact rfl))); (case F => k_asm); (case X => k_asm); (case N => k_asm); (case T => k_asm); (case P => walk_at "m_cell"); (case v0 => first | assumption | omega); (case A => walk_at "m_room"); (case U => walk_at "m_units"); k_whole; intro tk' h' tk'' F' N'; (try k_sweep); (try dsimp only)))
local macro_rules | `(tactic| walk_at "call ref") => `(tactic| (k_here; (with_reducible show wpAny _ _ (call (Value.ref 229) _ _) _ _ _); refine' Mine.use_bool (f := 229) ?c (Mine.ct_leafE _ _ _ _ ?v0) ?F ?X ?N ?T ?P ?A ?U ?_; (case c => (refine' Mine.calls_of rfl ?e1; (case e1 => exact rfl))); (case F => k_asm); (case X => k_asm); (case N => k_asm); (case T => k_asm); (case P => walk_at "m_cell"); (case v0 => first | assumption | omega); (case A => walk_at "m_room"); (case U => walk_at "m_units"); k_whole; intro h' tk'' F' N'; (try dsimp only [PySem.W.CmpBack]); (try k_sweep); (try dsimp only)))
local macro_rules | `(tactic| walk_at "call ref") => `(tactic| (k_here; (with_reducible show wpAny _ _ (call (Value.ref 187) _ _) _ _ _); refine' Mine.use_bool (f := 187) ?c (Mine.ct_faceFE _ _ _ _ ?v0) ?F ?X ?N ?T ?P ?A ?U ?_; (case c => (refine' Mine.calls_of rfl ?e1; (case e1 => exact rfl))); (case F => k_asm); (case X => k_asm); (case N => k_asm); (case T => k_asm); (case P => walk_at "m_cell"); (case v0 => first | assumption | omega); (case A => walk_at "m_room"); (case U => walk_at "m_units"); k_whole; intro h' tk'' F' N'; (try dsimp only [PySem.W.CmpBack]); (try k_sweep); (try dsimp only)))
local macro_rules | `(tactic| walk_at "call ref") => `(tactic| (k_here; (with_reducible show wpAny _ _ (call (Value.ref 405) _ _) _ _ _); refine' Mine.use_int (f := 405) ?c (Mine.ct_size0 _ _ _ _ ?v0 ?v1 ?v2) ?F ?X ?N ?T ?P ?A ?U ?_; (case c => (refine' Mine.calls_of rfl ?e1; (case e1 => exact rfl))); (case F => k_asm); (case X => k_asm); (case N => k_asm); (case T => k_asm); (case P => walk_at "m_cell"); (case v0 => first | assumption | omega); (case v1 => first | assumption | omega); (case v2 => first | assumption | omega); (case A => walk_at "m_room"); (case U => walk_at "m_units"); k_whole; intro tk' h' tk'' F' N'; (try k_sweep); (try dsimp only)))
local macro_rules | `(tactic| walk_at "call ref") => `(tactic| (k_here; (with_reducible show wpAny _ _ (call (Value.ref 405) _ _) _ _ _); refine' Mine.use_int (f := 405) ?c (Mine.ct_size1 _ _ _ _ _ ?v0 ?v1) ?F ?X ?N ?T ?P ?A ?U ?_; (case c => (refine' Mine.calls_of rfl ?e1; (case e1 => exact rfl))); (case F => k_asm); (case X => k_asm); (case N => k_asm); (case T => k_asm); (case P => walk_at "m_cell"); (case v0 => first | assumption | omega); (case v1 => first | assumption | omega); (case A => walk_at "m_room"); (case U => walk_at "m_units"); k_whole; intro tk' h' tk'' F' N'; (try k_sweep); (try dsimp only)))
namespace Mine
open PySem.W
section
variable {w : World} {s : Shared} {h₀ : Heap} {mg mb : Str → Option Value} {p : Program} {loose : List Str} {Q : Flow → Shared → Prop} {E : Value → Shared → Prop} {P : LP} {fv : Option Value} {o6 o7 o8 : Obj}
theorem s22 (I : LI P h₀ fv o6 o7 o8 s) (X : (hd.heap_39 w.params).In h₀) (T : TopRead p loose mg mb h₀) (hl0 : 0 ≤ P.lv) (hl : P.lv ≤ 30) (pl0 : 0 ≤ P.pl) (plB : P.pl ≤ 6917529027641081855) (W : Lv P.n P.lv) (e1 : fc P.n = P.pl.fdiv (4 ^ P.lv.toNat)) (e2 : psn P.n = (2 * P.pl.fmod (4 ^ P.lv.toNat) + 1) * 4 ^ (30 - P.lv).toNat) (e3 : lw P.n = P.le)
    (h : ∀ h' tk', LI P h₀ fv o6 o7 o8 { s with heap := h', toks := tk' } → Q .next { s with heap := h', toks := tk' }) :
    wpAny (model PR w) (lawA P.L P.a P.cd) (exec (st 22) (lawEnv P.L P.a P.cd)) Q E s := by
  have hA := lawA_d P.L P.a P.cd
  have hu := lawA_u P.L P.a P.cd
  obtain ⟨F, N, d1, d2, d3, ⟨t4, d4⟩, d5, d6, d7, d8, off1, off2, off3, g⟩ := id I
  unfold lawEnv
  refine exec_is (st' := ?S) ?e ?_
  case e => conv => lhs; whnf
  have q1 := p4_pos P.lv.toNat
  have q2 : (4 : Int) ^ P.lv.toNat ≤ 1152921504606846976 := p4_30 (by omega)
  have q3 := fmod_b P.pl (4 ^ P.lv.toNat) (by omega)
  k_steps
  all_goals (try k_data)
  all_goals (first
    | exact h _ _ (LI.again I (by k_asm) (by k_asm) (by walk_at "m_sub"))
    | ((with_reducible rename ((decide _ != decide _) = true) => hb); (have hb' := bne_dec hb); exfalso; omega)
    | (exfalso; clear h I; simp_all; done)
    | (exfalso; clear h I; simp_all; omega))
theorem s20 (I : LI P h₀ fv o6 o7 o8 s) (X : (hd.heap_39 w.params).In h₀) (T : TopRead p loose mg mb h₀)
    (h : ∀ h' tk' o7' o8' ta tb, o7'.data = .cell (some (.int (P.st.fdiv 1152921504606846976) ta)) → o8'.data = .cell (some (.int (P.st.fmod 1152921504606846976) tb)) → LI P h₀ fv o6 o7' o8' { s with heap := h', toks := tk' } → Q .next { s with heap := h', toks := tk' }) :
    wpAny (model PR w) (lawA P.L P.a P.cd) (exec (st 20) (lawEnv P.L P.a P.cd)) Q E s := by
  have hA := lawA_d P.L P.a P.cd
  have hu := lawA_u P.L P.a P.cd
  obtain ⟨F, N, d1, d2, d3, ⟨t4, d4⟩, d5, d6, ⟨v7, d7⟩, ⟨v8, d8⟩, off1, off2, off3, g⟩ := id I
  have e430 : (4 : Int) ^ Int.toNat 30 = 1152921504606846976 := by decide
  unfold lawEnv
  refine exec_is (st' := ?S) ?e ?_
  case e => conv => lhs; whnf
  k_steps
  all_goals (try k_data)
  have e7 := ‹Obj.data _ = Data.cell (some (Value.int (P.st.fmod _) _))›
  rw [e430] at e7
  have e8 := ‹Obj.data _ = Data.cell (some (Value.int (P.st.fdiv _) _))›
  rw [e430] at e8
  exact h _ _ _ _ _ _ e8 e7 (I.again78 (by k_asm) ⟨_, e8⟩ ⟨_, e7⟩ (by k_asm) (by walk_at "m_sub"))
theorem s23 (I : LI P h₀ fv o6 o7 o8 s) (X : (hd.heap_39 w.params).In h₀) (T : TopRead p loose mg mb h₀) (W : Lv P.n P.lv) (hl0 : 0 ≤ P.lv) (hl : P.lv ≤ 30) (hd0 : 0 ≤ P.dp) (hd1 : P.dp ≤ 30)
    (e1 : lfb P.n = decide (P.lv = 30)) (e2 : fcb P.n = decide (P.lv = 0))
    (h : ∀ h' tk', LI P h₀ fv o6 o7 o8 { s with heap := h', toks := tk' } → Q (.ret (.bool true)) { s with heap := h', toks := tk' }) :
    wpAny (model PR w) (lawA P.L P.a P.cd) (exec (st 23) (lawEnv P.L P.a P.cd)) Q E s := by
  have hA := lawA_d P.L P.a P.cd
  have hu := lawA_u P.L P.a P.cd
  obtain ⟨F, N, d1, d2, d3, ⟨t4, d4⟩, d5, d6, d7, d8, off1, off2, off3, g⟩ := id I
  unfold lawEnv
  refine exec_is (st' := ?S) ?e ?_
  case e => conv => lhs; whnf
  k_steps
  all_goals (try k_data)
  have hq : ∀ (b : Bool) h' tk', b = true → LI P h₀ fv o6 o7 o8 { s with heap := h', toks := tk' } → Q (.ret (.bool b)) { s with heap := h', toks := tk' } := by
    intro b h' tk' hb hI
    subst hb
    exact h _ _ hI
  refine hq _ _ _ ?hb (LI.again I (by k_asm) (by k_asm) (by walk_at "m_sub"))
  case hb => 
    simp only [Int.one_mul, beq_self_eq_true, Bool.and_self, Bool.and_true, Bool.and_eq_true, beq_iff_eq]
    exact ⟨rfl, rfl⟩
end
end Mine
end
-- part L9
section
namespace Mine
open PySem.W
structure C4 (n pl lv : Int) : Prop where
  f : lfb n = false
  b0 : ∀ i, 0 ≤ i → i < 4 → 0 ≤ n + (2 * i + 1 - 4) * (lw n).fdiv (2 ^ Int.toNat 2)
  b1 : ∀ i, 0 ≤ i → i < 4 → n + (2 * i + 1 - 4) * (lw n).fdiv (2 ^ Int.toNat 2) < 18446744073709551615
  e : ∀ i, 0 ≤ i → i < 4 → n + (2 * i + 1 - 4) * (lw n).fdiv (2 ^ Int.toNat 2) = (2 * (4 * pl + i) + 1) * 4 ^ (30 - (lv + 1)).toNat
theorem ct_ch4 (w : World) (x : Addr) (n pl lv i : Int) (t : Tok) (V : Vd n) (K : C4 n pl lv) (hi : 0 ≤ i) (hi4' : i < 0 + ((4 - 0 : Int).toNat : Int)) : Ct w 6 166 [.ref x, .int i t] (fun g h => IsCell g h x n) (fun h h' v => NewC h h' v ((2 * (4 * pl + i) + 1) * 4 ^ (30 - (lv + 1)).toNat)) :=
  have hi4 : i < 4 := hi4'
  ct_eqC (ct_child w x n i t V K.f (K.b0 i hi hi4) (K.b1 i hi hi4) hi hi4) (K.e i hi hi4)
theorem ct_lid4 (w : World) (pl i l : Int) (t t2 : Tok) (q0 : 0 ≤ pl) (q1 : pl ≤ 1729382256910270463) (h0 : 0 ≤ l) (h1 : l ≤ 30) (hi : 0 ≤ i) (hi4' : i < 0 + ((4 - 0 : Int).toNat : Int)) : Ct w 1 436 [.int (4 * pl + i) t, .int l t2] (fun _ _ => True) (fun h h' v => ∃ tk, v = .int ((2 * (4 * pl + i) + 1) * 4 ^ (30 - l).toNat) tk) :=
  have hi4 : i < 4 := hi4'
  ct_law_id w (4 * pl + i) l t t2 h0 h1 (by omega) (by omega)
end Mine
local macro_rules | `(tactic| walk_at "call ref") => `(tactic| (k_here; (with_reducible show wpAny _ _ (call (Value.ref 436) _ _) _ _ _); refine' Mine.use_int (f := 436) ?c (Mine.ct_lid4 _ _ _ _ _ _ ?v0 ?v1 ?v2 ?v3 ?v4 ?v5) ?F ?X ?N ?T ?P ?A ?U ?_; (case c => (refine' Mine.calls_of rfl ?e1; (case e1 => exact rfl))); (case F => k_asm); (case X => k_asm); (case N => k_asm); (case T => k_asm); (case P => trivial); (case v0 => assumption); (case v1 => assumption); (case v2 => assumption); (case v3 => assumption); (case v4 => assumption); (case v5 => assumption); (case A => walk_at "m_room"); (case U => walk_at "m_units"); k_whole; intro tk' h' tk'' F' N'; (try k_sweep); (try dsimp only)))
local macro_rules | `(tactic| walk_at "call ref") => `(tactic| (k_here; (with_reducible show wpAny _ _ (call (Value.ref 166) _ _) _ _ _); refine' Mine.use_cell (f := 166) ?c (Mine.ct_ch4 _ _ _ _ _ _ _ ?v0 ?v1 ?v2 ?v3) ?F ?X ?N ?T ?P ?A ?U ?_; (case c => (refine' Mine.calls_of rfl ?e1; (case e1 => exact rfl))); (case F => k_asm); (case X => k_asm); (case N => k_asm); (case T => k_asm); (case P => walk_at "m_cell"); (case v0 => assumption); (case v1 => assumption); (case v2 => assumption); (case v3 => assumption); (case A => walk_at "m_room"); (case U => walk_at "m_units"); k_whole; intro y' dy' hs' tk1' tn' h' tk'' F' N' O'; (try k_sweep); (try dsimp only)))
namespace Mine
open PySem.W
section
variable {w : World} {s : Shared} {h₀ : Heap} {mg mb : Str → Option Value} {p : Program} {loose : List Str} {Q : Flow → Shared → Prop} {E : Value → Shared → Prop} {P : LP} {fv : Option Value} {o6 o7 o8 : Obj}
def ifB : Stmt → List Stmt
  | .If _ b _ _ => b
  | _ => []
def i17 (j : Nat) : Stmt := (ifB (st 17)).getD j default
set_option maxHeartbeats 2000000 in
theorem s17a (I : LI P h₀ fv o6 o7 o8 s) (X : (hd.heap_39 w.params).In h₀) (T : TopRead p loose mg mb h₀) (V : Vd P.n) (K : C4 P.n P.pl P.lv) (q0 : 0 ≤ P.pl) (q1 : P.pl ≤ 1729382256910270463) (h0 : 0 ≤ P.lv) (h1 : P.lv < 30)
    (h : ∀ D ys h' tk', IntsAre ys (List.map (fun k' => (2 * (4 * P.pl + k') + 1) * 4 ^ (30 - (P.lv + 1)).toNat) (rangeKs 0 (4 - 0 : Int).toNat)) → Fr h₀ P.L h' (mF P (some (.ref D))) → News h₀ P.L h' ((D, LCg.lst ys) :: ledF P o6 o7 o8) → Q .next { s with heap := h', toks := tk' }) :
    wpAny (model PR w) (lawA P.L P.a P.cd) (exec (i17 0) (lawEnv P.L P.a P.cd)) Q E s := by
  have hA := lawA_d P.L P.a P.cd
  have hu := lawA_u P.L P.a P.cd
  obtain ⟨F, N, d1, d2, d3, ⟨t4, d4⟩, d5, d6, d7, d8, off1, off2, off3, g⟩ := id I
  have g0 : 0 ≤ P.lv + 1 := by omega
  have g1 : P.lv + 1 ≤ 30 := by omega
  unfold lawEnv
  refine exec_is (st' := ?stx) ?e ?_
  case e => conv => lhs; whnf
  k_steps
  all_goals (try k_data)
  refine h _ _ _ _ (by assumption) (Fr.eqm (by k_asm) ?eq) (by k_asm)
  case eq =>
    intro y
    by_cases hy : y = PySem.Str.ofString "four"
    · rw [if_pos hy, hy]; rfl
    · rw [if_neg hy]; dsimp only [mF]; rw [if_neg hy, if_neg hy]
end
end Mine
end
-- part L11
section
namespace Mine
open PySem.W
def xs4 (P : LP) (i : Nat) : Int := (2 * (4 * P.pl + (i : Int)) + 1) * 4 ^ (30 - (P.lv + 1)).toNat
theorem xs4_l (P : LP) : (List.range 4).map (xs4 P) = List.map (fun k' => (2 * (4 * P.pl + k') + 1) * 4 ^ (30 - (P.lv + 1)).toNat) (rangeKs 0 (4 - 0 : Int).toNat) := by rfl
end Mine
local macro_rules | `(tactic| walk_at "call ref") => `(tactic| (k_here; (with_reducible show wpAny _ _ (call (Value.ref 436) _ _) _ _ _); refine' Mine.use_int (f := 436) ?c (Mine.ct_lid4 _ _ _ _ _ _ ?v0 ?v1 ?v2 ?v3 ?v4 ?v5) ?F ?X ?N ?T ?P ?A ?U ?_; (case c => (refine' Mine.calls_of rfl ?e1; (case e1 => exact rfl))); (case F => k_asm); (case X => k_asm); (case N => k_asm); (case T => k_asm); (case P => trivial); (case v0 => assumption); (case v1 => assumption); (case v2 => assumption); (case v3 => assumption); (case v4 => assumption); (case v5 => assumption); (case A => walk_at "m_room"); (case U => walk_at "m_units"); k_whole; intro tk' h' tk'' F' N'; (try k_sweep); (try dsimp only)))
local macro_rules | `(tactic| walk_at "call ref") => `(tactic| (k_here; (with_reducible show wpAny _ _ (call (Value.ref 166) _ _) _ _ _); refine' Mine.use_cell (f := 166) ?c (Mine.ct_ch4 _ _ _ _ _ _ _ ?v0 ?v1 ?v2 ?v3) ?F ?X ?N ?T ?P ?A ?U ?_; (case c => (refine' Mine.calls_of rfl ?e1; (case e1 => exact rfl))); (case F => k_asm); (case X => k_asm); (case N => k_asm); (case T => k_asm); (case P => walk_at "m_cell"); (case v0 => assumption); (case v1 => assumption); (case v2 => assumption); (case v3 => assumption); (case A => walk_at "m_room"); (case U => walk_at "m_units"); k_whole; intro y' dy' hs' tk1' tn' h' tk'' F' N' O'; (try k_sweep); (try dsimp only)))
local macro_rules | `(tactic| walk_at "eval ListComp") => `(tactic| (k_here; (with_reducible show wpAny _ _ (eval (PySem.Expr.ListComp _ [⟨PySem.Expr.Tuple _ _ _, _, [], _⟩] _ _) _) _ _ _); k_dflt (refine' Mine.eval_is (e' := Mine.z17) ?ee ?_; (case ee => ((conv => rhs; whnf) <;> exact rfl)); refine' Mine.zcK17 ?F ?N ?S ?X ?T ?d5 ?C ?L ?_; (case F => k_asm); (case N => k_asm); (case S => walk_at "m_sub1"); (case X => k_asm); (case T => k_asm); (case d5 => assumption); (case C => assumption); (case L => exact Mine.xs4_l _)); intro D' h' tk' gens' zs' ab' hi' F' N' hD'; (try dsimp only)))
local macro_rules | `(tactic| walk_at "m_sub1") => `(tactic| (repeat (refine Mine.sub_cons ?_ (by first | exact List.Mem.head _ | k_mem))); intro p hp; exact absurd hp (by simp))
namespace Mine
open PySem.W
section
variable {w : World} {s : Shared} {h₀ : Heap} {mg mb : Str → Option Value} {p : Program} {loose : List Str} {Q : Flow → Shared → Prop} {E : Value → Shared → Prop} {P : LP} {fv : Option Value} {o6 o7 o8 : Obj}
set_option maxHeartbeats 1500000 in
theorem s17b {D : Addr} {ys : List Value} (hi : IntsAre ys (List.map (fun k' => (2 * (4 * P.pl + k') + 1) * 4 ^ (30 - (P.lv + 1)).toNat) (rangeKs 0 (4 - 0 : Int).toNat))) (F : Fr h₀ P.L s.heap (mF P (some (.ref D)))) (N : News h₀ P.L s.heap ((D, LCg.lst ys) :: ledF P o6 o7 o8)) (X : (hd.heap_39 w.params).In h₀) (T : TopRead p loose mg mb h₀)
    (d1 : P.o1.data = .cell (some (.int P.lv P.u7))) (d2 : P.o2.data = .cell (some (.int P.pl P.u8))) (d5 : P.o5.data = .cell (some (.ref P.y1)))
    (V : Vd P.n) (K : C4 P.n P.pl P.lv) (q0 : 0 ≤ P.pl) (q1 : P.pl ≤ 1729382256910270463) (h0 : 0 ≤ P.lv) (h1 : P.lv < 30) (GC : GenC w P.y1 P.n [] (xs4 P) 4) 
    (h : ∀ h' tk' gens', (AllBare s.gens → AllBare gens') → Fr h₀ P.L h' (mF P (some (.ref D))) → News h₀ P.L h' ((D, LCg.lst ys) :: ledF P o6 o7 o8) → Q .next { s with heap := h', toks := tk', gens := gens' }) :
    wpAny (model PR w) (lawA P.L P.a P.cd) (exec (i17 1) (lawEnv P.L P.a P.cd)) Q E s := by
  have hA := lawA_d P.L P.a P.cd
  have hu := lawA_u P.L P.a P.cd
  have g0 : 0 ≤ P.lv + 1 := by omega
  have g1 : P.lv + 1 ≤ 30 := by omega
  unfold lawEnv
  refine exec_is (st' := ?stx) ?e ?_
  case e => conv => lhs; whnf
  k_steps
  all_goals (try k_data)
  exact h _ _ _ (by assumption) (by k_asm) (News.sub (by k_asm) (by walk_at "m_sub"))
end
end Mine
end
-- part L12
section
namespace Mine
open PySem.W
theorem ints4 {ys : List Value} {f : Int → Int} (h : IntsAre ys (List.map f (rangeKs 0 (4 - 0 : Int).toNat))) : ∃ t0 t1 t2 t3, ys = [.int (f 0) t0, .int (f 1) t1, .int (f 2) t2, .int (f 3) t3] := by
  have e : List.map f (rangeKs 0 (4 - 0 : Int).toNat) = [f 0, f 1, f 2, f 3] := by rfl
  rw [e] at h
  cases h with | cons _ t0 h => cases h with | cons _ t1 h => cases h with | cons _ t2 h => cases h with | cons _ t3 h => cases h; exact ⟨t0, t1, t2, t3, rfl⟩
end Mine
local macro_rules | `(tactic| walk_at "call ref") => `(tactic| (k_here; (with_reducible show wpAny _ _ (call (Value.ref 243) _ _) _ _ _); refine' Mine.use_cell (f := 243) ?c (‹Mine.Ct _ _ 243 _ _ _›) ?F ?X ?N ?T ?P ?A ?U ?_; (case c => (refine' Mine.calls_of rfl ?e1; (case e1 => exact rfl))); (case F => k_asm); (case X => k_asm); (case N => k_asm); (case T => k_asm); (case P => walk_at "m_cell"); (case A => walk_at "m_room"); (case U => walk_at "m_units"); k_whole; intro y' dy' hs' tk1' tn' h' tk'' F' N' O'; (try k_sweep); (try dsimp only)))
local macro_rules | `(tactic| walk_at "call ref") => `(tactic| (k_here; (with_reducible show wpAny _ _ (call (Value.ref 250) _ _) _ _ _); refine' Mine.use_cell (f := 250) ?c (‹Mine.Ct _ _ 250 _ _ _›) ?F ?X ?N ?T ?P ?A ?U ?_; (case c => (refine' Mine.calls_of rfl ?e1; (case e1 => exact rfl))); (case F => k_asm); (case X => k_asm); (case N => k_asm); (case T => k_asm); (case P => walk_at "m_cell"); (case A => walk_at "m_room"); (case U => walk_at "m_units"); k_whole; intro y' dy' hs' tk1' tn' h' tk'' F' N' O'; (try k_sweep); (try dsimp only)))
local macro_rules | `(tactic| walk_at "call ref") => `(tactic| (k_here; (with_reducible show wpAny _ _ (call (Value.ref 436) _ _) _ _ _); refine' Mine.use_int (f := 436) ?c (Mine.ct_law_id _ _ _ _ _ ?v0 ?v1 ?v2 ?v3) ?F ?X ?N ?T ?P ?A ?U ?_; (case c => (refine' Mine.calls_of rfl ?e1; (case e1 => exact rfl))); (case F => k_asm); (case X => k_asm); (case N => k_asm); (case T => k_asm); (case P => trivial); (case v0 => first | assumption | omega); (case v1 => first | assumption | omega); (case v2 => first | assumption | omega); (case v3 => first | assumption | omega); (case A => walk_at "m_room"); (case U => walk_at "m_units"); k_whole; intro tk' h' tk'' F' N'; (try k_sweep); (try dsimp only)))
namespace Mine
open PySem.W
section
variable {w : World} {s : Shared} {h₀ : Heap} {mg mb : Str → Option Value} {p : Program} {loose : List Str} {Q : Flow → Shared → Prop} {E : Value → Shared → Prop} {P : LP} {fv : Option Value} {o6 o7 o8 : Obj}
set_option maxHeartbeats 1500000 in
theorem s17c {D : Addr} {ys : List Value} (hi : IntsAre ys (List.map (fun k' => (2 * (4 * P.pl + k') + 1) * 4 ^ (30 - (P.lv + 1)).toNat) (rangeKs 0 (4 - 0 : Int).toNat))) (F : Fr h₀ P.L s.heap (mF P (some (.ref D)))) (N : News h₀ P.L s.heap ((D, LCg.lst ys) :: ledF P o6 o7 o8)) (X : (hd.heap_39 w.params).In h₀) (T : TopRead p loose mg mb h₀)
    (d1 : P.o1.data = .cell (some (.int P.lv P.u7))) (d2 : P.o2.data = .cell (some (.int P.pl P.u8))) (d5 : P.o5.data = .cell (some (.ref P.y1)))
    (q0 : 0 ≤ P.pl) (q1 : P.pl ≤ 1729382256910270463) (h0 : 0 ≤ P.lv) (h1 : P.lv < 30)
    (hb : Ct w 6 243 [.ref P.y1] (fun g h => IsCell g h P.y1 P.n) (fun h h' v => NewC h h' v ((2 * (4 * P.pl + 0) + 1) * 4 ^ (30 - (P.lv + 1)).toNat)))
    (he : Ct w 6 250 [.ref P.y1] (fun g h => IsCell g h P.y1 P.n) (fun h h' v => NewC h h' v ((2 * (4 * P.pl + 4) + 1) * 4 ^ (30 - (P.lv + 1)).toNat)))
    (h : ∀ h' tk', Fr h₀ P.L h' (mF P (some (.ref D))) → News h₀ P.L h' (ledF P o6 o7 o8) → Q .next { s with heap := h', toks := tk' }) :
    wpAny (model PR w) (lawA P.L P.a P.cd) (exec (i17 2) (lawEnv P.L P.a P.cd)) Q E s := by
  have hA := lawA_d P.L P.a P.cd
  have hu := lawA_u P.L P.a P.cd
  have g0 : 0 ≤ P.lv + 1 := by omega
  have g1 : P.lv + 1 ≤ 30 := by omega
  obtain ⟨t0, t1, t2, t3, rfl⟩ := ints4 hi
  unfold lawEnv
  refine exec_is (st' := ?stx) ?e ?_
  case e => conv => lhs; whnf
  k_steps
  all_goals (try k_data)
  all_goals (first
    | exact h _ _ (by k_asm) (News.sub (by k_asm) (by walk_at "m_sub"))
    | (exfalso; contradiction)
    | (exfalso; clear h; simp_all; done))
end
end Mine
end
-- part L13
section
namespace Mine
open PySem.W
section
variable {w : World} {s : Shared} {h₀ : Heap} {mg mb : Str → Option Value} {p : Program} {loose : List Str} {E : Value → Shared → Prop} {P : LP} {fv : Option Value} {o6 o7 o8 : Obj}
theorem s17t {Q : Bool → Shared → Prop} (I : LI P h₀ fv o6 o7 o8 s) (X : (hd.heap_39 w.params).In h₀) (T : TopRead p loose mg mb h₀)
    (h : ∀ h' tk', LI P h₀ fv o6 o7 o8 { s with heap := h', toks := tk' } → Q (decide (P.lv < 30)) { s with heap := h', toks := tk' }) :
    wpAny (model PR w) (lawA P.L P.a P.cd) (isTrue (ifT (st 17)) (lawEnv P.L P.a P.cd) (eval (ifT (st 17)) (lawEnv P.L P.a P.cd))) Q E s := by
  have hA := lawA_d P.L P.a P.cd
  have hu := lawA_u P.L P.a P.cd
  obtain ⟨F, N, d1, d2, d3, ⟨t4, d4⟩, d5, d6, d7, d8, off1, off2, off3, g⟩ := id I
  unfold lawEnv
  refine isTrue_is (e' := ?stx) ?e ?_
  case e => conv => lhs; whnf
  k_steps
  exact h _ _ (LI.again I (by k_asm) (by k_asm) (by walk_at "m_sub"))
theorem st17_eq : st 17 = .If (ifT (st 17)) [i17 0, i17 1, i17 2] [] (st 17).pos := by rfl
theorem s17 {Q : Flow → Shared → Prop} (I : LI P h₀ fv o6 o7 o8 s) (X : (hd.heap_39 w.params).In h₀) (T : TopRead p loose mg mb h₀) (V : Vd P.n) (h0 : 0 ≤ P.lv) (q0 : 0 ≤ P.pl) (q1 : P.lv < 30 → P.pl ≤ 1729382256910270463) (K : P.lv < 30 → C4 P.n P.pl P.lv) (GC : P.lv < 30 → GenC w P.y1 P.n [] (xs4 P) 4)
    (h : ∀ h' tk' gens' fv', LI P h₀ fv' o6 o7 o8 { s with heap := h', toks := tk', gens := gens' } → Q .next { s with heap := h', toks := tk', gens := gens' }) :
    wpAny (model PR w) (lawA P.L P.a P.cd) (exec (st 17) (lawEnv P.L P.a P.cd)) Q E s := by
  rw [st17_eq]
  refine wpAny_If (s17t I X T fun h1 tk1 I1 => ?_)
  by_cases hl : P.lv < 30
  · rw [decide_eq_true hl, if_pos rfl]
    refine wpAny_execs_cons (s17a I1 X T V (K hl) q0 (q1 hl) h0 hl fun D ys h2 tk2 hi F2 N2 => ?_)
    dsimp only
    refine wpAny_execs_cons (s17b hi F2 N2 X T I.d1 I.d2 I.d5 V (K hl) q0 (q1 hl) h0 hl (GC hl) fun h3 tk3 g3 ab F3 N3 => ?_)
    dsimp only
    refine wpAny_execs_cons (s17c hi F3 N3 X T I.d1 I.d2 I.d5 q0 (q1 hl) h0 hl (GC hl).hb (GC hl).he fun h4 tk4 F4 N4 => ?_)
    dsimp only
    refine wpAny_execs_nil ?_
    exact h h4 tk4 g3 (some (.ref D)) ⟨F4, N4, I.d1, I.d2, I.d3, I.d4, I.d5, I.d6, I.d7, I.d8, I.off1, I.off2, I.off3, ab I.g⟩
  · rw [decide_eq_false hl]
    refine wpAny_execs_nil ?_
    exact h h1 tk1 s.gens fv I1
end
end Mine
end
-- part L14
section
namespace Mine
open PySem.W
def forI : Stmt → PySem.Expr
  | .For _ i _ _ _ => i
  | _ => default
def forT : Stmt → PySem.Expr
  | .For t _ _ _ _ => t
  | _ => default
/-- what the loop of statement 18 gives at the level kv -/
def xs18 (P : LP) (kv : Int) (i : Nat) : Int := (2 * (P.lo.fdiv (4 ^ (30 - kv).toNat) + (i : Int)) + 1) * 4 ^ (30 - kv).toNat
def cn18 (P : LP) (kv : Int) : Nat := ((4 : Int) ^ (kv - P.lv).toNat - 0).toNat
theorem xs18_l (P : LP) (kv : Int) : (List.range (cn18 P kv)).map (xs18 P kv) = List.map (fun k' => (2 * (P.lo.fdiv (4 ^ (30 - kv).toNat) + k') + 1) * 4 ^ (30 - kv).toNat) (rangeKs 0 ((4 : Int) ^ (kv - P.lv).toNat - 0).toNat) := by
  unfold rangeKs
  rw [List.map_map]
  apply List.map_congr_left
  intro i _
  unfold xs18
  show _ = (2 * (P.lo.fdiv (4 ^ (30 - kv).toNat) + (0 + (i : Int))) + 1) * 4 ^ (30 - kv).toNat
  rw [Int.zero_add]
/-- what statement 18 needs at the level kv -/
structure G18 (w : World) (P : LP) (kv : Int) : Prop where
  k0 : P.lv ≤ kv
  k1 : kv ≤ 30
  k2 : 0 ≤ kv
  q0 : 0 ≤ P.lo.fdiv (4 ^ (30 - kv).toNat)
  q1 : P.lo.fdiv (4 ^ (30 - kv).toNat) ≤ 6917529027641081856
  q2 : P.lo.fdiv (4 ^ (30 - kv).toNat) + 4 ^ (kv - P.lv).toNat ≤ 6917529027641081856
  k3 : (4 : Int) ^ (kv - P.lv).toNat ≤ 4
  gc : ∀ t, GenC w P.y1 P.n [.int kv t] (xs18 P kv) (cn18 P kv)
theorem G18.p {w : World} {P : LP} {kv : Int} (K : G18 w P kv) (h0 : 0 ≤ P.lv) : 1 ≤ (4 : Int) ^ (30 - kv).toNat ∧ (4 : Int) ^ (30 - kv).toNat ≤ 1152921504606846976 ∧ 1 ≤ (4 : Int) ^ (kv - P.lv).toNat ∧ (4 : Int) ^ (kv - P.lv).toNat ≤ 4 := by
  have := K.k2
  have := K.k1
  exact ⟨p4_pos _, p4_30 (by omega), p4_pos _, K.k3⟩
theorem ct_lid18 (w : World) (P : LP) (kv i : Int) (t t2 : Tok) (K : G18 w P kv) (hi : 0 ≤ i) (hi4' : i < 0 + (((4 : Int) ^ (kv - P.lv).toNat - 0).toNat : Int)) : Ct w 1 436 [.int (P.lo.fdiv (4 ^ (30 - kv).toNat) + i) t, .int kv t2] (fun _ _ => True) (fun h h' v => ∃ tk, v = .int ((2 * (P.lo.fdiv (4 ^ (30 - kv).toNat) + i) + 1) * 4 ^ (30 - kv).toNat) tk) :=
  ct_law_id w _ kv t t2 K.k2 K.k1 (by have := K.q0; omega) (by have := K.q2; have := p4_pos (kv - P.lv).toNat; omega)
end Mine
namespace Mine
theorem assign_is {M : Model} {A : Around} {e e' : PySem.Expr} {env : Env} {v : Value} {Q : Unit → Shared → Prop} {E : Value → Shared → Prop} {s : Shared} (h : e = e') (q : wpAny M A (assign e' env v) Q E s) : wpAny M A (assign e env v) Q E s := by subst h; exact q
end Mine
local macro_rules | `(tactic| walk_at "call ref") => `(tactic| (k_here; (with_reducible show wpAny _ _ (call (Value.ref 436) _ _) _ _ _); refine' Mine.use_int (f := 436) ?c (Mine.ct_lid18 _ _ _ _ _ _ ?v0 ?v1 ?v2) ?F ?X ?N ?T ?P ?A ?U ?_; (case c => (refine' Mine.calls_of rfl ?e1; (case e1 => exact rfl))); (case F => k_asm); (case X => k_asm); (case N => k_asm); (case T => k_asm); (case P => trivial); (case v0 => assumption); (case v1 => assumption); (case v2 => assumption); (case A => walk_at "m_room"); (case U => walk_at "m_units"); k_whole; intro tk' h' tk'' F' N'; (try k_sweep); (try dsimp only)))
local macro_rules | `(tactic| walk_at "eval ListComp") => `(tactic| (k_here; (with_reducible show wpAny _ _ (eval (PySem.Expr.ListComp _ [⟨PySem.Expr.Tuple _ _ _, _, [], _⟩] _ _) _) _ _ _); k_dflt (refine' Mine.eval_is (e' := Mine.z18) ?ee ?_; (case ee => ((conv => rhs; whnf) <;> exact rfl)); refine' Mine.zcK18 ?F ?N ?S ?X ?T ?d5 ?d6 ?C ?L ?_; (case F => k_asm); (case N => k_asm); (case S => walk_at "m_sub1"); (case X => k_asm); (case T => k_asm); (case d5 => assumption); (case d6 => assumption); (case C => exact Mine.G18.gc (by assumption) _); (case L => exact Mine.xs18_l _ _)); intro D' h' tk' gens' zs' ab' hi' F' N' hD'; (try dsimp only)))
local macro_rules | `(tactic| walk_at "m_sub1") => `(tactic| (repeat (refine Mine.sub_cons ?_ (by first | exact List.Mem.head _ | k_mem))); intro p hp; exact absurd hp (by simp))
namespace Mine
open PySem.W
section
variable {w : World} {s : Shared} {h₀ : Heap} {mg mb : Str → Option Value} {p : Program} {loose : List Str} {E : Value → Shared → Prop} {P : LP} {fv : Option Value} {o6 o7 o8 : Obj}
set_option maxHeartbeats 3000000 in
theorem s18i {Q : Value → Shared → Prop} (I : LI P h₀ fv o6 o7 o8 s) (X : (hd.heap_39 w.params).In h₀) (T : TopRead p loose mg mb h₀) (h0 : 0 ≤ P.lv) (h1 : P.lv ≤ 30)
    (h : ∀ r h' tk' t u v, IsRange h' r P.lv ((if P.lv + 1 < 30 then P.lv + 1 else 30) + 1) 1 t u v → LI P h₀ fv o6 o7 o8 { s with heap := h', toks := tk' } → Q (.ref r) { s with heap := h', toks := tk' }) :
    wpAny (model PR w) (lawA P.L P.a P.cd) (eval (forI (st 18)) (lawEnv P.L P.a P.cd)) Q E s := by
  have hA := lawA_d P.L P.a P.cd
  have hu := lawA_u P.L P.a P.cd
  obtain ⟨F, N, d1, d2, d3, ⟨t4, d4⟩, d5, d6, d7, d8, off1, off2, off3, g⟩ := id I
  unfold lawEnv
  refine eval_is (e' := ?stx) ?e ?_
  case e => conv => lhs; whnf
  k_steps
  exact h _ _ _ _ _ _ (by assumption) (LI.again I (by k_asm) (by k_asm) (by walk_at "m_sub"))
set_option maxHeartbeats 3000000 in
theorem s18b {J : Addr} {oI : Obj} {h1 : Heap} {tk1 : Nat} {g1 : Array GenState} {kv : Int} {t : Tok} (X : (hd.heap_39 w.params).In h₀) (T : TopRead p loose mg mb h₀) (h0 : 0 ≤ P.lv) (K : G18 w P kv)
    (d1 : P.o1.data = .cell (some (.int P.lv P.u7))) (d3 : P.o3.data = .cell (some (.int P.lo P.u9))) (d5 : P.o5.data = .cell (some (.ref P.y1)))
    (B : AllBare g1) (F : Fr h₀ P.L h1 (mF P fv)) (d6 : ∃ u, o6.data = .cell u) (N : News h₀ P.L h1 ((J, oI) :: ledF P o6 o7 o8)) (hJ : @Ne Nat J (P.L + 6)) (off1 : Off2 (ledA P) P.y1 P.dy1) (off2 : Off2 (ledA P) P.y2 P.dy2) (off3 : Off2 (ledA P) P.al P.bl) :
    wpAny (model PR w) (lawA P.L P.a P.cd) (assign (forT (st 18)) (lawEnv P.L P.a P.cd) (.int kv t)) (fun _ s2 => wpAny (model PR w) (lawA P.L P.a P.cd) (execs [(forB (st 18)).getD 0 default] (lawEnv P.L P.a P.cd)) (TurnG P h₀ fv o7 o8 J oI s) (fun _ _ => False) s2) (fun _ _ => False) { s with heap := h1, toks := tk1, gens := g1 } := by
  have hA := lawA_d P.L P.a P.cd
  have hu := lawA_u P.L P.a P.cd
  obtain ⟨p1, p1', p2, p2'⟩ := K.p h0
  obtain ⟨a1, b1, c1⟩ : _ ∧ _ ∧ _ := ⟨K.k0, K.k1, K.k2⟩
  obtain ⟨q1, r1, u1⟩ : _ ∧ _ ∧ _ := ⟨K.q0, K.q1, K.q2⟩
  obtain ⟨v6, d6⟩ := d6
  unfold lawEnv
  refine assign_is (e' := ?tx) ?e ?_
  case e => conv => lhs; whnf
  k_steps
  try dsimp only
  refine exec_is (st' := ?stx) ?ex ?_
  case ex => conv => lhs; whnf
  k_steps
  all_goals (try k_data)
  have hB := (‹AllBare _ → AllBare _›) B
  exact turnG hB (by k_asm) ⟨_, by assumption⟩ (by k_asm) (by walk_at "m_sub")
theorem st18_eq : st 18 = .For (forT (st 18)) (forI (st 18)) [(forB (st 18)).getD 0 default] [] (st 18).pos := by rfl
theorem s18 {Q : Flow → Shared → Prop} (I : LI P h₀ fv o6 o7 o8 s) (X : (hd.heap_39 w.params).In h₀) (T : TopRead p loose mg mb h₀) (h0 : 0 ≤ P.lv) (hl : P.lv ≤ 30) (K : ∀ kv, P.lv ≤ kv → kv ≤ 30 → kv ≤ P.lv + 1 → G18 w P kv)
    (h : ∀ h' tk' g' o6', LI P h₀ fv o6' o7 o8 { s with heap := h', toks := tk', gens := g' } → Q .next { s with heap := h', toks := tk', gens := g' }) :
    wpAny (model PR w) (lawA P.L P.a P.cd) (exec (st 18) (lawEnv P.L P.a P.cd)) Q E s := by
  rw [st18_eq]
  have hb : P.lv ≤ (if P.lv + 1 < 30 then P.lv + 1 else 30) + 1 ∧ (if P.lv + 1 < 30 then P.lv + 1 else 30) + 1 ≤ 31 ∧ (if P.lv + 1 < 30 then P.lv + 1 else 30) + 1 ≤ P.lv + 2 ∧ (if P.lv + 1 < 30 then P.lv + 1 else 30) + 1 - P.lv = (((if P.lv + 1 < 30 then P.lv + 1 else 30) + 1 - P.lv).toNat : Int) := by split <;> omega
  obtain ⟨b0, b1, b2, b3⟩ := hb
  generalize hbb : (if P.lv + 1 < 30 then P.lv + 1 else 30) + 1 = b at *
  refine for_range (a := P.lv) (b := b) (lawA_h _ _ _) b0 (small_one (by omega) (by omega) (by omega) (by omega)) ?sz (fun Q' hQ => s18i I X T h0 hl (by rw [hbb]; exact hQ)) ?step h (fun _ => rfl) (fun _ _ => rfl)
  case sz =>
    simp only [Builtin.Range.rangeSize]
    split <;> omega
  case step =>
    intro x t h1 tk1 g1 o6 J oI x0 x1 B F d6 N hJ
    exact s18b X T h0 (K x x0 (by omega) (by omega)) I.d1 I.d3 I.d5 B F d6 N hJ I.off1 I.off2 I.off3
end
end Mine
end
-- part L15
section
namespace Mine
open PySem.W
/-- what from_face_pos_level needs at a leaf st and a level kv -/
structure FK (st kv : Int) : Prop where
  k0 : 0 ≤ kv
  k1 : kv ≤ 30
  f0 : 0 ≤ st.fdiv 1152921504606846976
  f1 : st.fdiv 1152921504606846976 < 6
  l0 : 0 ≤ 2 * st.fmod 1152921504606846976 + kv.fmod 2
  l1 : 2 * st.fmod 1152921504606846976 + kv.fmod 2 < 2305843009213693952
  m : st.fdiv 1152921504606846976 * 2 ^ Int.toNat 61 + Builtin.bitOr (2 * st.fmod 1152921504606846976 + kv.fmod 2) 1 = 2 * st + 1
  n0 : 0 ≤ 2 * st + 1
  n1 : 2 * st + 1 < 18446744073709551615
  V : Vd (2 * st + 1)
  W : Lv (2 * st + 1) 30
  b0 : 0 ≤ Builtin.bitOr (Builtin.bitAnd (2 * st + 1) (-(lz kv))) (lz kv)
  b1 : Builtin.bitOr (Builtin.bitAnd (2 * st + 1) (-(lz kv))) (lz kv) < 18446744073709551615
  e : Builtin.bitOr (Builtin.bitAnd (2 * st + 1) (-(lz kv))) (lz kv) = (2 * st.fdiv (4 ^ (30 - kv).toNat) + 1) * 4 ^ (30 - kv).toNat
  q0 : 0 ≤ st.fdiv (4 ^ (30 - kv).toNat)
  q1 : st.fdiv (4 ^ (30 - kv).toNat) ≤ 6917529027641081856
def AllFK (st : Int) (ks : List Int) : Prop := ∀ kv ∈ ks, FK st kv
theorem AllFK.get {st kv : Int} {ks : List Int} (A : AllFK st ks) (h : kv ∈ ks) : FK st kv := A kv h
theorem AllFK.bnd {st kv : Int} {ks : List Int} (A : AllFK st ks) (h : kv ∈ ks) : 0 ≤ kv ∧ kv ≤ 30 ∧ 1 ≤ (4 : Int) ^ (30 - kv).toNat ∧ (4 : Int) ^ (30 - kv).toNat ≤ 1152921504606846976 ∧ 0 ≤ st.fdiv (4 ^ (30 - kv).toNat) ∧ st.fdiv (4 ^ (30 - kv).toNat) ≤ 6917529027641081856 := by
  have K := A kv h
  have := K.k0
  have := K.k1
  exact ⟨K.k0, by omega, p4_pos _, p4_30 (by omega), K.q0, K.q1⟩
theorem ct_f21 (w : World) (st kv : Int) (t t2 t3 : Tok) (K : FK st kv) : Ct w 8 99 [.ref 425, .int (st.fdiv 1152921504606846976) t, .int (2 * st.fmod 1152921504606846976 + kv.fmod 2) t2, .int kv t3] (fun _ _ => True) (fun h h' v => NewC h h' v ((2 * st.fdiv (4 ^ (30 - kv).toNat) + 1) * 4 ^ (30 - kv).toNat)) :=
  ct_eqC (ct_ffpl w _ _ (2 * st + 1) kv 30 t t2 t3 K.f0 K.f1 K.l0 K.l1 K.m K.n0 K.n1 K.V K.W K.b0 K.b1 K.k0 K.k1 (by decide)) K.e
end Mine
local macro_rules | `(tactic| walk_at "m_pk") => `(tactic| first | omega | exact (Mine.AllFK.bnd (by assumption) (by assumption)).1 | exact (Mine.AllFK.bnd (by assumption) (by assumption)).2.1 | exact (Mine.AllFK.bnd (by assumption) (by assumption)).2.2.2.2.1 | exact (Mine.AllFK.bnd (by assumption) (by assumption)).2.2.2.2.2 | ((have kb' := Mine.AllFK.bnd (by assumption) (by assumption)); omega))
local macro_rules | `(tactic| walk_at "binaryOp Pow int int") => `(tactic| (k_here; (with_reducible refine pow_int_small ?a ?b ?c ?_); (case a => walk_at "m_pk"); (case b => walk_at "m_pk"); (case c => decide)))
local macro_rules | `(tactic| walk_at "binaryOp FloorDiv int int") => `(tactic| (k_here; (with_reducible refine floordiv_int ?kbe ?_ (Or.inl (PyProof.noPylong_of_log2 (Mine.np_small ?k0 ?k1)))); (case kbe => walk_at "m_pk"); (case k0 => walk_at "m_pk"); (case k1 => walk_at "m_pk")))
local macro_rules | `(tactic| walk_at "eval ListComp") => `(tactic| (k_here; (with_reducible show wpAny _ _ (eval (PySem.Expr.ListComp _ [⟨_, PySem.Expr.Tuple _ _ _, [], _⟩] _ _) _) _ _ _); k_dflt (refine Mine.ListComp_T (F₀ := by k_asm) (by with_unfolding_all rfl) (by decide) (by rfl) (by decide) (by rfl) ?_)))
local macro_rules | `(tactic| walk_at "SrcT") => `(tactic| (k_here; k_dflt (refine Mine.SrcT.intro (by rfl) (by k_asm) (by k_asm) (by k_mem) (by first | size_fits | exact Nat.le_of_ble_eq_true rfl) ?_; intro g'; (refine' kcf_list (vs := [_, _, _, _]) _ ?hin (fun k' t' I' oI' C' oC' D' m' ys' h' tk' E' hk' hC' hx' F' N' off' ne' hMark' => ?_) ?_); (case hin => exact .cons _ _ (.cons _ _ (.cons _ _ (.cons _ _ .nil)))); (all_goals (try (simp only [LCg.Off3, and_true] at off'))); kcf_last)))
local macro_rules | `(tactic| walk_at "call ref") => `(tactic| (k_here; (with_reducible show wpAny _ _ (call (Value.ref 436) _ _) _ _ _); refine' Mine.use_int (f := 436) ?c (Mine.ct_law_id _ _ _ _ _ ?v0 ?v1 ?v2 ?v3) ?F ?X ?N ?T ?P ?A ?U ?_; (case c => (refine' Mine.calls_of rfl ?e1; (case e1 => exact rfl))); (case F => k_asm); (case X => k_asm); (case N => k_asm); (case T => k_asm); (case P => trivial); (case v0 => first | assumption | walk_at "m_pk"); (case v1 => first | assumption | walk_at "m_pk"); (case v2 => first | assumption | walk_at "m_pk"); (case v3 => first | assumption | walk_at "m_pk"); (case A => walk_at "m_room"); (case U => walk_at "m_units"); k_whole; intro tk' h' tk'' F' N'; (try k_sweep); (try dsimp only)))
local macro_rules | `(tactic| walk_at "call ref") => `(tactic| (k_here; (with_reducible show wpAny _ _ (call (Value.ref _) _ _) _ _ _); refine' Mine.use_cell (f := 99) ?c (Mine.ct_f21 _ _ _ _ _ _ ?v0) ?F ?X ?N ?T ?P ?A ?U ?_; (case c => (refine' Mine.calls_meth' ?q2 ?N2 rfl ?e2; (case N2 => k_asm); (case q2 => k_mem); (case e2 => exact rfl))); (case F => k_asm); (case X => k_asm); (case N => k_asm); (case T => k_asm); (case P => trivial); (case v0 => first | assumption | exact Mine.AllFK.get (by assumption) (by assumption)); (case A => walk_at "m_room"); (case U => walk_at "m_units"); k_whole; intro y' dy' hs' tk1' tn' h' tk'' F' N' O'; (try k_sweep); (try dsimp only)))
namespace Mine
open PySem.W
section
variable {w : World} {s : Shared} {h₀ : Heap} {mg mb : Str → Option Value} {p : Program} {loose : List Str} {Q : Flow → Shared → Prop} {E : Value → Shared → Prop} {P : LP} {fv : Option Value} {o6 o7 o8 : Obj}
set_option maxHeartbeats 4000000 in
theorem s21 (I : LI P h₀ fv o6 o7 o8 s) (X : (hd.heap_39 w.params).In h₀) (T : TopRead p loose mg mb h₀) {ta tb : Tok} (e7 : o7.data = .cell (some (.int (P.st.fdiv 1152921504606846976) ta))) (e8 : o8.data = .cell (some (.int (P.st.fmod 1152921504606846976) tb))) (K : AllFK P.st [0, P.dr, P.dp, 30])
    (h : ∀ h' tk', LI P h₀ fv o6 o7 o8 { s with heap := h', toks := tk' } → Q .next { s with heap := h', toks := tk' }) :
    wpAny (model PR w) (lawA P.L P.a P.cd) (exec (st 21) (lawEnv P.L P.a P.cd)) Q E s := by
  have hA := lawA_d P.L P.a P.cd
  have hu := lawA_u P.L P.a P.cd
  obtain ⟨F, N, d1, d2, d3, ⟨t4, d4⟩, d5, d6, d7, d8, off1, off2, off3, g⟩ := id I
  clear d7 d8
  unfold lawEnv
  refine exec_is (st' := ?S) ?e ?_
  case e => conv => lhs; whnf
  k_steps
  all_goals (try k_data)
  all_goals (first
    | exact h _ _ (LI.again I (by k_asm) (by k_asm) (by walk_at "m_sub"))
    | (exfalso; contradiction)
    | (exfalso; clear h I; simp_all; done)
    | trace_state)
end
end Mine
end
end
-- part AR3
namespace Mine
open PySem.W
theorem nlo (p : Int) (a : Nat) : (2 * p + 1) * (4 : Int) ^ a - 4 ^ a = 2 * (p * 4 ^ a) := by
  rw [Int.add_mul, Int.one_mul, Int.mul_assoc]; omega
theorem nhi (p : Int) (a : Nat) : (2 * p + 1) * (4 : Int) ^ a + 4 ^ a = 2 * ((p + 1) * 4 ^ a) := by
  rw [Int.add_mul, Int.add_mul, Int.one_mul, Int.mul_assoc]; omega
theorem odd4 (q : Int) (c : Nat) : (2 * q + 1) * (4 : Int) ^ c = 2 * (q * 4 ^ c) + 4 ^ c := by
  rw [Int.add_mul, Int.one_mul, Int.mul_assoc]
theorem p4s (c : Nat) : (4 : Int) ^ (c + 1) = 4 * 4 ^ c := by rw [Int.pow_succ, Int.mul_comm]
theorem fd2 (x : Int) : x.fdiv (2 ^ Int.toNat 2) = x / 4 := by
  rw [Int.fdiv_eq_ediv_of_nonneg _ (by decide), show (2 : Int) ^ Int.toNat 2 = 4 from by decide]
section
variable {P : LP} {w : World}
theorem NumP.a30 (N : NumP P) : (30 - P.lv).toNat ≤ 30 := by have := N.lv0; omega
theorem NumP.b30 (N : NumP P) : (30 - P.dp).toNat ≤ 30 := by have := N.dp0; omega
theorem NumP.V (N : NumP P) : Vd P.n := by rw [N.n]; exact vd_cid N.lv0 N.lv1 N.pl0 N.pl1
theorem NumP.W (N : NumP P) : Vd P.k := by rw [N.k]; exact vd_cid N.dp0 N.dp1 N.th0 N.th1
theorem NumP.l (N : NumP P) : Lv P.n P.lv := by rw [N.n]; exact lv_cid N.lv0 N.lv1
theorem NumP.lw (N : NumP P) : lw P.n = 4 ^ (30 - P.lv).toNat := by rw [N.n]; exact lw_k _ _
theorem NumP.loB (N : NumP P) : 0 ≤ P.lo ∧ P.lo < 6917529027641081856 ∧ P.hi ≤ 6917529027641081856 ∧ 0 ≤ P.hi := by
  rw [N.lo, N.hi]; exact Mine.loB N.lv0 N.lv1 N.pl0 N.pl1
theorem NumP.stB (N : NumP P) : 0 ≤ P.st ∧ P.st < 6917529027641081856 := by
  rw [N.st]
  have := Mine.loB N.dp0 N.dp1 N.th0 N.th1
  exact ⟨this.1, this.2.1⟩
theorem NumP.plB (N : NumP P) : P.pl ≤ 6917529027641081855 := by
  have h := N.pl1
  have := p4_30 (n := P.lv.toNat) (by have := N.lv1; omega)
  omega
theorem NumP.plB' (N : NumP P) (h : P.lv < 30) : P.pl ≤ 1729382256910270463 := by
  have h1 := N.pl1
  have := p4_le (n := P.lv.toNat) (k := 29) (by have := N.lv0; omega)
  have e : (4 : Int) ^ 29 = 288230376151711744 := by decide
  omega
-- 12
theorem NumP.e12a (N : NumP P) : decide (P.n - (Mine.lw P.n - 1) ≤ P.k ∧ P.k ≤ P.n + (Mine.lw P.n - 1)) = decide (P.lo ≤ P.st ∧ P.sp ≤ P.hi) := by
  rw [N.n, N.k, N.lo, N.hi, N.st, N.sp]; exact nestD _ _ _ _
theorem NumP.e12b (N : NumP P) : decide (P.k - (Mine.lw P.k - 1) ≤ P.n ∧ P.n ≤ P.k + (Mine.lw P.k - 1)) = decide (P.st ≤ P.lo ∧ P.hi ≤ P.sp) := by
  rw [N.n, N.k, N.lo, N.hi, N.st, N.sp]; exact nestD _ _ _ _
-- 13
theorem NumP.e13a (N : NumP P) : decide (P.k - (Mine.lw P.k - 1) ≤ P.n + (Mine.lw P.n - 1) ∧ P.n - (Mine.lw P.n - 1) ≤ P.k + (Mine.lw P.k - 1)) = decide (P.lo < P.sp ∧ P.st < P.hi) := by
  rw [N.n, N.k, N.lo, N.hi, N.st, N.sp]; exact meetD _ _ _ _
theorem NumP.e13b (N : NumP P) : decide (P.n - (Mine.lw P.n - 1) ≤ P.k + (Mine.lw P.k - 1) ∧ P.k - (Mine.lw P.k - 1) ≤ P.n + (Mine.lw P.n - 1)) = decide (P.lo < P.sp ∧ P.st < P.hi) := by
  rw [N.n, N.k, N.lo, N.hi, N.st, N.sp]; exact meetD' _ _ _ _
-- 14
theorem NumP.e14a (N : NumP P) : P.n - (Mine.lw P.n - 1) = 2 * P.lo + 1 := by rw [N.n, N.lo]; exact lowE _ _
theorem NumP.e14b (N : NumP P) : P.n + (Mine.lw P.n - 1) = 2 * P.hi - 1 := by rw [N.n, N.hi]; exact highE _ _
-- 15
theorem NumP.pk (N : NumP P) {kv : Int} (h0 : 0 ≤ kv) (h1 : kv ≤ P.lv) : PK P.n P.lo P.lv kv := by
  have hl := N.lv1
  have b := N.loB
  have q := idB b.1 (Int.le_of_lt b.2.1) (k := (30 - kv).toNat) (by omega)
  have e : Builtin.bitOr (Builtin.bitAnd P.n (-(lz kv))) (lz kv) = (2 * (P.lo / 4 ^ (30 - kv).toNat) + 1) * 4 ^ (30 - kv).toNat := by
    rw [lz_is, N.n, N.lo]; exact par_low _ (by omega)
  exact ⟨h0, h1, by rw [e]; exact q.1, by rw [e]; exact q.2.1, by rw [e, fdp], by rw [fdp]; exact q.2.2.1, by rw [fdp]; exact q.2.2.2⟩
theorem NumP.e15 (N : NumP P) : AllPK P.n P.lo P.lv [0, P.hv, P.lv, P.mn] := by
  have h0 := N.lv0
  have hv := N.hv
  rw [Int.fdiv_eq_ediv_of_nonneg _ (by decide)] at hv
  have hm := N.mn
  have hd := N.dr0
  intro kv hk
  simp only [List.mem_cons, List.not_mem_nil, or_false] at hk
  rcases hk with rfl | rfl | rfl | rfl
  · exact N.pk (by omega) (by omega)
  · exact N.pk (by omega) (by omega)
  · exact N.pk (by omega) (by omega)
  · split at hm <;> exact N.pk (by omega) (by omega)
-- 16
theorem NumP.e16 (N : NumP P) (h : 0 < P.lv) : P0K P.n P.pl P.lv := by
  have hl := N.lv1
  have b := N.loB
  have c1 : (30 - (P.lv - 1)).toNat = (30 - P.lv).toNat + 1 := by omega
  have ew : Mine.lw P.n * 2 ^ Int.toNat 2 = 4 ^ (30 - (P.lv - 1)).toNat := by
    rw [N.lw, c1, p4s, show (2 : Int) ^ Int.toNat 2 = 4 from by decide, Int.mul_comm]
  have q := idB b.1 (Int.le_of_lt b.2.1) (k := (30 - (P.lv - 1)).toNat) (by omega)
  have e0 : P.lo / 4 ^ (30 - (P.lv - 1)).toNat = P.pl / 4 := by
    have := p4p (30 - P.lv).toNat
    rw [N.lo, c1, p4s, Int.mul_ediv_mul_of_pos_left _ _ this]
  have e : Builtin.bitOr (Builtin.bitAnd P.n (-(Mine.lw P.n * 2 ^ Int.toNat 2))) (Mine.lw P.n * 2 ^ Int.toNat 2) = (2 * (P.pl / 4) + 1) * 4 ^ (30 - (P.lv - 1)).toNat := by
    rw [ew, ← e0, N.n, N.lo]; exact par_low _ (by omega)
  have hw := N.lw
  have p1 := p4p (30 - P.lv).toNat
  have p2 := p4le30 (k := (30 - P.lv).toNat) N.a30
  rw [e0] at q
  have f4 : P.pl.fdiv 4 = P.pl / 4 := Int.fdiv_eq_ediv_of_nonneg _ (by decide)
  refine ⟨by rw [N.n]; exact fcb_false _ (by omega), by rw [e]; exact q.1, by rw [e]; exact q.2.1, by omega, by omega, by rw [e, f4], by omega, by omega⟩
-- 17
theorem NumP.idN (N : NumP P) : P.n - Mine.lw P.n = 2 * P.lo ∧ P.n + Mine.lw P.n = 2 * P.hi := by
  rw [N.lw, N.n, N.lo, N.hi]; exact ⟨nlo _ _, nhi _ _⟩
theorem NumP.hiE (N : NumP P) : P.hi = P.lo + 4 ^ (30 - P.lv).toNat := by rw [N.hi, N.lo, Int.add_mul, Int.one_mul]
theorem NumP.c4 (N : NumP P) (h : P.lv < 30) : C4 P.n P.pl P.lv := by
  have h0 := N.lv0
  have b := N.loB
  have i := N.idN
  have hh := N.hiE
  have hlo := N.lo
  have c1 : (30 - P.lv).toNat = (30 - (P.lv + 1)).toNat + 1 := by omega
  have p1 := p4p (30 - (P.lv + 1)).toNat
  have p2 := p4le30 (k := (30 - (P.lv + 1)).toNat) (by omega)
  have ew : Mine.lw P.n = 4 * 4 ^ (30 - (P.lv + 1)).toNat := by rw [N.lw, c1, p4s]
  have hlo' : P.lo = 4 * (P.pl * 4 ^ (30 - (P.lv + 1)).toNat) := by rw [hlo, c1, p4s, ← Int.mul_assoc, Int.mul_comm P.pl 4, Int.mul_assoc]
  rw [c1, p4s] at hh
  have e : ∀ j : Int, P.n + (2 * j + 1 - 4) * (Mine.lw P.n).fdiv (2 ^ Int.toNat 2) = (2 * (4 * P.pl + j) + 1) * 4 ^ (30 - (P.lv + 1)).toNat := by
    intro j
    rw [fd2, ew, Int.mul_ediv_cancel_left _ (by decide), odd4, Int.add_mul, Int.mul_assoc 4, Int.sub_mul, Int.add_mul, Int.one_mul, Int.mul_assoc 2 j]
    omega
  have jb : ∀ j : Int, 0 ≤ j → j < 4 → 0 ≤ j * 4 ^ (30 - (P.lv + 1)).toNat ∧ j * 4 ^ (30 - (P.lv + 1)).toNat ≤ 3 * 4 ^ (30 - (P.lv + 1)).toNat := fun j j0 j4 =>
    ⟨Int.mul_nonneg j0 (by omega), Int.mul_le_mul_of_nonneg_right (by omega) (by omega)⟩
  refine ⟨by rw [N.n]; exact lfb_false (even_k _ (by omega)), fun j j0 j4 => ?_, fun j j0 j4 => ?_, fun j _ _ => e j⟩
  · rw [e, odd4, Int.add_mul, Int.mul_assoc 4]
    have := jb j j0 j4
    omega
  · rw [e, odd4, Int.add_mul, Int.mul_assoc 4]
    have := jb j j0 j4
    omega
/-- the generator's numbers -/
theorem genC {x : Addr} {n : Int} {vs : List Value} {q : Int} {c cnt : Nat} {xs : Nat → Int} (hxs : ∀ i, xs i = (2 * (q + (i : Int)) + 1) * 4 ^ c) (h5 : cnt < 5) (q0 : 0 ≤ q * 4 ^ c) (q1 : q * 4 ^ c ≤ 6917529027641081856) (c30 : c ≤ 30)
    (qe : (q + (cnt : Int)) * 4 ^ c ≤ 6917529027641081856)
    (hb : Ct w 6 243 (.ref x :: vs) (fun g h => IsCell g h x n) (fun h h' v => NewC h h' v (xs 0))) (he : Ct w 6 250 (.ref x :: vs) (fun g h => IsCell g h x n) (fun h h' v => NewC h h' v (xs cnt))) : GenC w x n vs xs cnt := by
  have p1 := p4p c
  have p2 := p4le30 c30
  have ee : ∀ i : Nat, xs i = 2 * (q * 4 ^ c) + 2 * ((i : Int) * 4 ^ c) + 4 ^ c := fun i => by rw [hxs, odd4, Int.add_mul]; omega
  have ib : ∀ i : Nat, i < cnt → 0 ≤ (i : Int) * 4 ^ c ∧ (i : Int) * 4 ^ c < (cnt : Int) * 4 ^ c := fun i hi => ⟨Int.mul_nonneg (by omega) (by omega), (mlt p1).mpr (by omega)⟩
  rw [Int.add_mul] at qe
  refine ⟨h5, fun i hi => ?_, fun i hi a => ?_, hb, he⟩
  · have := ib i hi
    rw [ee, ee]
    omega
  · have b := ib i hi
    have el : Mine.lw (xs i) = 4 ^ c := by rw [hxs]; exact lw_k _ _
    have e2 : xs i + Mine.lw (xs i) * 2 ^ Int.toNat 1 = xs (i + 1) := by
      rw [el, show (2 : Int) ^ Int.toNat 1 = 2 from by decide, ee, ee, show ((i + 1 : Nat) : Int) = (i : Int) + 1 from by omega, Int.add_mul, Int.one_mul]
      omega
    have e3 := ee (i + 1)
    rw [show ((i + 1 : Nat) : Int) = (i : Int) + 1 from by omega, Int.add_mul, Int.one_mul] at e3
    refine ct_eqC (ct_next w a (xs i) ?_ ?_ ?_ ?_) e2
    · rw [e2, e3]; omega
    · rw [e2, e3]; omega
    · rw [el]; omega
    · rw [el]; omega
theorem NumP.gc17 (N : NumP P) (h : P.lv < 30) : GenC w P.y1 P.n [] (xs4 P) 4 := by
  have h0 := N.lv0
  have b := N.loB
  have i := N.idN
  have hh := N.hiE
  have hlo := N.lo
  have c1 : (30 - P.lv).toNat = (30 - (P.lv + 1)).toNat + 1 := by omega
  have p1 := p4p (30 - (P.lv + 1)).toNat
  have p2 := p4le30 (k := (30 - (P.lv + 1)).toNat) (by omega)
  have ew : Mine.lw P.n = 4 * 4 ^ (30 - (P.lv + 1)).toNat := by rw [N.lw, c1, p4s]
  have hlo' : P.lo = 4 * (P.pl * 4 ^ (30 - (P.lv + 1)).toNat) := by rw [hlo, c1, p4s, ← Int.mul_assoc, Int.mul_comm P.pl 4, Int.mul_assoc]
  rw [c1, p4s] at hh
  have hf : lfb P.n = false := by rw [N.n]; exact lfb_false (even_k _ (by omega))
  have ed : (Mine.lw P.n).fdiv (2 ^ Int.toNat 2) = 4 ^ (30 - (P.lv + 1)).toNat := by rw [fd2, ew, Int.mul_ediv_cancel_left _ (by decide)]
  have eb : P.n - Mine.lw P.n + (Mine.lw P.n).fdiv (2 ^ Int.toNat 2) = xs4 P 0 := by
    unfold xs4
    rw [ed, odd4, Int.add_mul, Int.mul_assoc 4]
    simp only [Int.natCast_zero, Int.zero_mul]
    omega
  have ee : P.n + Mine.lw P.n + (Mine.lw P.n).fdiv (2 ^ Int.toNat 2) = xs4 P 4 := by
    unfold xs4
    rw [ed, odd4, Int.add_mul, Int.mul_assoc 4, show ((4 : Nat) : Int) = 4 from rfl]
    omega
  refine genC (q := 4 * P.pl) (c := (30 - (P.lv + 1)).toNat) (fun i => rfl) (by decide) ?_ ?_ (by omega) ?_ (ct_eqC (ct_cb0 w P.y1 P.n N.V hf ?_ ?_) eb) (ct_eqC (ct_ce0 w P.y1 P.n N.V hf ?_ ?_) ee)
  · rw [Int.mul_assoc]; omega
  · rw [Int.mul_assoc]; omega
  · rw [Int.add_mul, Int.mul_assoc, show ((4 : Nat) : Int) = 4 from rfl]; omega
  all_goals (rw [ed]; omega)
-- 19
theorem NumP.ck (N : NumP P) {kv : Int} (h0 : P.lv ≤ kv) (h1 : kv ≤ 30) : CK P.n P.lo P.hi P.lv kv := by
  have hl := N.lv0
  have b := N.loB
  have i := N.idN
  have p1 := p4p (30 - kv).toNat
  have p2 := p4le30 (k := (30 - kv).toNat) (by omega)
  have q := qle b.1 (30 - kv).toNat
  have r := qle b.2.2.2 (30 - kv).toNat
  have m1 : P.lo / 4 ^ (30 - kv).toNat * 4 ^ (30 - kv).toNat = P.lo := by rw [N.lo]; exact mulE _ (by omega)
  have m2 : P.hi / 4 ^ (30 - kv).toNat * 4 ^ (30 - kv).toNat = P.hi := by rw [N.hi]; exact mulE _ (by omega)
  have ez := lz_is kv
  refine ⟨h0, h1, by omega, by omega, by omega, by omega, by omega, ?_, ?_, ?_, ?_, ?_, ?_⟩
  · rw [fdp, odd4, m1, ez]; omega
  · rw [fdp, odd4, m2, ez]; omega
  all_goals (rw [fdp]; omega)
-- 18
theorem NumP.g18 (N : NumP P) {kv : Int} (h0 : P.lv ≤ kv) (h1 : kv ≤ 30) (h2 : kv ≤ P.lv + 1) : G18 w P kv := by
  have hl := N.lv0
  have b := N.loB
  have K := N.ck h0 h1
  have hh := N.hiE
  have k3 : (4 : Int) ^ (kv - P.lv).toNat ≤ 4 := p4_le (n := (kv - P.lv).toNat) (k := 1) (by omega)
  have k4 := p4_pos (kv - P.lv).toNat
  have p1 := p4p (30 - kv).toNat
  have m1 : P.lo / 4 ^ (30 - kv).toNat * 4 ^ (30 - kv).toNat = P.lo := by rw [N.lo]; exact mulE _ (by omega)
  have ec : (cn18 P kv : Int) = 4 ^ (kv - P.lv).toNat := by unfold cn18; omega
  have pw : (4 : Int) ^ (kv - P.lv).toNat * 4 ^ (30 - kv).toNat = 4 ^ (30 - P.lv).toNat := by rw [← p4add, show (kv - P.lv).toNat + (30 - kv).toNat = (30 - P.lv).toNat from by omega]
  have hq : (P.lo / 4 ^ (30 - kv).toNat + 4 ^ (kv - P.lv).toNat) * 4 ^ (30 - kv).toNat = P.hi := by rw [Int.add_mul, m1, pw, hh]
  have hq' : P.hi / 4 ^ (30 - kv).toNat = P.lo / 4 ^ (30 - kv).toNat + 4 ^ (kv - P.lv).toNat := by rw [← hq, Int.mul_ediv_cancel _ (by omega)]
  have r := qle b.2.2.2 (30 - kv).toNat
  refine ⟨h0, h1, by omega, K.q0, K.q1, by rw [fdp, ← hq']; omega, k3, fun t => ?_⟩
  refine genC (q := P.lo.fdiv (4 ^ (30 - kv).toNat)) (c := (30 - kv).toNat) (fun i => rfl) (by omega) ?_ ?_ (by omega) ?_ (ct_eqC (ct_cb1 w P.y1 P.n kv P.lv t N.V N.l K.b0 K.b1 K.k0 K.k1 K.k2) ?_) (ct_eqC (ct_ce1 w P.y1 P.n kv P.lv t N.V N.l K.b2 K.b3 K.k0 K.k1 K.k2) ?_)
  · rw [fdp, m1]; omega
  · rw [fdp, m1]; omega
  · rw [ec, fdp, hq]; omega
  · rw [K.e]; unfold xs18; simp only [Int.natCast_zero, Int.add_zero]
  · rw [K.e']; unfold xs18; rw [ec, fdp, fdp, hq']
-- 21
theorem NumP.e21 (N : NumP P) : AllFK P.st [0, P.dr, P.dp, 30] := by
  have b := N.stB
  have e30 : (1152921504606846976 : Int) = 4 ^ 30 := by decide
  have f1 : P.st.fdiv 1152921504606846976 = P.st / 1152921504606846976 := Int.fdiv_eq_ediv_of_nonneg _ (by decide)
  have f2 : P.st.fmod 1152921504606846976 = P.st % 1152921504606846976 := Int.fmod_eq_emod_of_nonneg _ (by decide)
  have key : ∀ kv : Int, 0 ≤ kv → kv ≤ 30 → FK P.st kv := by
    intro kv k0 k1
    have f3 : kv.fmod 2 = kv % 2 := Int.fmod_eq_emod_of_nonneg _ (by decide)
    have q := idB b.1 (Int.le_of_lt b.2) (k := (30 - kv).toNat) (by omega)
    have e : Builtin.bitOr (Builtin.bitAnd (2 * P.st + 1) (-(lz kv))) (lz kv) = (2 * (P.st / 4 ^ (30 - kv).toNat) + 1) * 4 ^ (30 - kv).toNat := by
      have := par_low P.st (c := (30 - kv).toNat) (k := 0) (by omega)
      rw [Int.pow_zero, Int.mul_one, Int.mul_one] at this
      rw [lz_is]; exact this
    have hV : Vd (2 * P.st + 1) := by
      have := vd_cid (p := P.st) (l := 30) (by decide) (by decide) b.1 (by rw [show (4 : Int) ^ Int.toNat 30 = 1152921504606846976 from by decide]; omega)
      unfold cid at this
      rwa [show ((30 : Int) - 30).toNat = 0 from rfl, Int.pow_zero, Int.mul_one] at this
    have hW : Lv (2 * P.st + 1) 30 := by
      have := lv_cid (p := P.st) (l := 30) (by decide) (by decide)
      unfold cid at this
      rwa [show ((30 : Int) - 30).toNat = 0 from rfl, Int.pow_zero, Int.mul_one] at this
    refine ⟨k0, k1, by omega, by omega, by omega, by omega, ?_, by omega, by omega, hV, hW, by rw [e]; exact q.1, by rw [e]; exact q.2.1, by rw [e, fdp], by rw [fdp]; exact q.2.2.1, by rw [fdp]; exact q.2.2.2⟩
    rw [or1 _ _ (by omega) (by omega), f1, f2, show (2 : Int) ^ Int.toNat 61 = 2305843009213693952 from by decide]
    omega
  have h1 := N.dr0
  have h2 := N.dr1
  have h3 := N.dp0
  have h4 := N.dp1
  intro kv hk
  simp only [List.mem_cons, List.not_mem_nil, or_false] at hk
  rcases hk with rfl | rfl | rfl | rfl
  · exact key _ (by omega) (by omega)
  · exact key _ (by omega) (by omega)
  · exact key _ (by omega) (by omega)
  · exact key _ (by omega) (by omega)
-- 22
theorem NumP.e22a (N : NumP P) : fc P.n = P.pl.fdiv (4 ^ P.lv.toNat) := by
  have h0 := N.lv0
  have h1 := N.lv1
  rw [N.n, fcE _ N.a30, show 30 - (30 - P.lv).toNat = P.lv.toNat from by omega]
theorem NumP.e22b (N : NumP P) : psn P.n = (2 * P.pl.fmod (4 ^ P.lv.toNat) + 1) * 4 ^ (30 - P.lv).toNat := by
  have h0 := N.lv0
  have h1 := N.lv1
  rw [N.n, psnE _ N.a30, show 30 - (30 - P.lv).toNat = P.lv.toNat from by omega]
theorem NumP.e22c (N : NumP P) : Mine.lw P.n = P.le := by rw [N.lw, N.le]
-- 23
theorem NumP.e23a (N : NumP P) : lfb P.n = decide (P.lv = 30) := by rw [N.n]; exact lfbE N.lv0 N.lv1
theorem NumP.e23b (N : NumP P) : fcb P.n = decide (P.lv = 0) := by rw [N.n]; exact fcbE N.lv0 N.lv1
theorem NumP.mxB (N : NumP P) : P.lv ≤ P.mx ∧ P.mx ≤ 30 := by
  have h := N.mx
  have h1 := N.lv1
  have h2 := N.dr1
  split at h <;> omega
theorem NumP.hwB (N : NumP P) : P.lv ≤ P.hw ∧ P.hw ≤ 30 := by
  have h := N.hw
  rw [Int.fdiv_eq_ediv_of_nonneg _ (by decide)] at h
  have h1 := N.lv1
  omega
end
end Mine
-- part JN
namespace Mine
open PySem.W
section
variable {w : World} {s : Shared} {h₀ : Heap} {L a sa : Addr} {cd : Value} {mg mb : Str → Option Value} {p : Program} {loose : List Str} {Q : Flow → Shared → Prop} {E : Value → Shared → Prop}
  {vs : List Value} {ns : List Int} {o1 o2 o3 o4 o5 o6 o7 o8 : Obj}
/-- the law's later statements, from its invariant -/
theorem law_tail {P : LP} (NP : NumP P) (I : LI P h₀ none o6 o7 o8 s) (X : (hd.heap_39 w.params).In h₀) (T : TopRead p loose mg mb h₀)
    (hQ : ∀ h' tk' g', (∃ m, Fr h₀ P.L h' m) → AllBare g' → Q (.ret (.bool true)) { s with heap := h', toks := tk', gens := g' }) :
    wpAny (model PR w) (lawA P.L P.a P.cd) (execs [st 12, st 13, st 14, st 15, st 16, st 17, st 18, st 19, st 20, st 21, st 22, st 23] (lawEnv P.L P.a P.cd)) Q E s := by
  refine wpAny_execs_cons (s12 I X T NP.V NP.W NP.e12a NP.e12b fun h1 t1 I1 => ?_)
  dsimp only
  refine wpAny_execs_cons (s13 I1 X T NP.V NP.W NP.e13a NP.e13b fun h2 t2 I2 => ?_)
  dsimp only
  refine wpAny_execs_cons (s14 I2 X T NP.V NP.e14a NP.e14b fun h3 t3 I3 => ?_)
  dsimp only
  refine wpAny_execs_cons (s15 I3 X T NP.V NP.l NP.lv0 NP.lv1 NP.e15 fun h4 t4 I4 => ?_)
  dsimp only
  refine wpAny_execs_cons (s16 I4 X T NP.V NP.lv0 NP.lv1 NP.e16 fun h5 t5 I5 => ?_)
  dsimp only
  refine wpAny_execs_cons (s17 I5 X T NP.V NP.lv0 NP.pl0 NP.plB' NP.c4 NP.gc17 fun h6 t6 g6 f6 I6 => ?_)
  dsimp only
  refine wpAny_execs_cons (s18 I6 X T NP.lv0 NP.lv1 (fun kv k0 k1 k2 => NP.g18 k0 k1 k2) fun h7 t7 g7 o7 I7 => ?_)
  dsimp only
  refine wpAny_execs_cons (s19 I7 X T NP.V NP.l (NP.ck (Int.le_refl _) NP.lv1) (NP.ck NP.hwB.1 NP.hwB.2) (NP.ck NP.lv1 (Int.le_refl _)) (NP.ck NP.mxB.1 NP.mxB.2) fun h8 t8 o8 I8 => ?_)
  dsimp only
  refine wpAny_execs_cons (s20 I8 X T fun h9 t9 o9 p9 ta tb e7 e8 I9 => ?_)
  dsimp only
  refine wpAny_execs_cons (s21 I9 X T e7 e8 NP.e21 fun hA tA IA => ?_)
  dsimp only
  refine wpAny_execs_cons (s22 IA X T NP.lv0 NP.lv1 NP.pl0 NP.plB NP.l NP.e22a NP.e22b NP.e22c fun hB tB IB => ?_)
  dsimp only
  refine wpAny_execs_cons (s23 IB X T NP.l NP.lv0 NP.lv1 NP.dp0 NP.dp1 NP.e23a NP.e23b fun hC tC IC => ?_)
  exact hQ _ _ _ ⟨_, IC.F⟩ IC.g
theorem law_body (F : Fr h₀ L s.heap (mS sa)) (X : (hd.heap_39 w.params).In h₀) (T : TopRead p loose mg mb h₀)
    (hS : h₀.IsList sa vs.toArray) (hI : IntsAre vs ns) (hn : ns.length ≤ 63)
    (N : News h₀ L s.heap [(L + 8, o8), (L + 7, o7), (L + 6, o6), (L + 5, o5), (L + 4, o4), (L + 3, o3), (L + 2, o2), (L + 1, o1)])
    (d1 : o1.data = .cell none) (d2 : o2.data = .cell none) (d3 : o3.data = .cell none) (d4 : o4.data = .cell none) (d5 : o5.data = .cell none) (d6 : o6.data = .cell none) (d7 : o7.data = .cell none) (d8 : o8.data = .cell none) (g : AllBare s.gens)
    (hQ : ∀ s', (∃ m, Fr h₀ L s'.heap m) → AllBare s'.gens → s'.os = s.os → Q (.ret (.bool true)) s') :
    wpAny (model PR w) (lawA L a cd) (execs lawB (lawEnv L a cd)) Q E s := by
  refine head0 F X T hS hI hn N d1 d2 fun lv pl dp th dr t0 t1 t2 t3 t4 h' tk' o1' o2' lv0 lv1 pl0 pl1 dp0 dp1 th0 th1 dr0 dr1 F1 N1 e1 e2 => ?_
  refine head1 X T lv0 lv1 pl0 pl1 dp0 dp1 th0 th1 dr0 dr1 F1 N1 e1 e2 d3 d4 d5 ⟨_, d6⟩ ⟨_, d7⟩ ⟨_, d8⟩ g fun P o6 o7 o8 h' tk' eL ea ec NP I => ?_
  refine law_tail NP I X T fun h' tk' g' F' B' => hQ _ (eL ▸ F') B' rfl
end
end Mine
theorem PySem.Challenge.cw_eq0043_01_holds : PySem.Challenge.rw_eq0043_01.Holds := by
  refine Mine.hd ?_
  lge_go0
  refine Mine.law_body (h₀ := ?h0) (sa := ?sa) (vs := ?vs) (ns := ?ns) (mg := ?mg) (mb := ?mb) (p := ?p) (loose := ?loose) (o1 := ?o1) (o2 := ?o2) (o3 := ?o3) (o4 := ?o4) (o5 := ?o5) (o6 := ?o6) (o7 := ?o7) (o8 := ?o8) ?F ?X ?T ?hS ?hI ?hn ?N ?d1 ?d2 ?d3 ?d4 ?d5 ?d6 ?d7 ?d8 ?g ?hQ
  case X => assumption
  case T => exact topRead_of (by assumption)
  case hI => assumption
  case hS => assumption
  case N => assumption
  case d1 => assumption
  case d2 => assumption
  case d3 => assumption
  case d4 => assumption
  case d5 => assumption
  case d6 => assumption
  case d7 => assumption
  case d8 => assumption
  case F =>
    refine Mine.fr_as (by assumption) fun y => ?_
    exact rfl
  case hn => 
    have h := ‹¬ _ < (_ : Int)›
    omega
  case g => exact AllBare.of_eq (by assumption)
  case hQ => 
   intro s' ⟨m, F'⟩ B' e
   exact goodWG_reads (by assumption) F' B' (raisesW_false (by wrow_none_raised)) (by w_reads) (by first | exact unshared_nil | exact fun h => absurd h (by decide)) (postW_of (by wrow_shape) (by wtm_val) (by str_meet; first | done | w_fin)) e
