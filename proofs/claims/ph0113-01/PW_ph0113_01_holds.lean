import PyProof.Rows.All
import Wide.All
import OpenK.AllK
import Wide.FinOn
import PySem.Challenge.RW_ph0113_01
set_option Elab.async false
set_option compiler.extract_closed false
section
local macro_rules | `(tactic| omega) => `(tactic| lia)
section
open PySem PySem.W PyProof.Rows
set_option Elab.async false
set_option maxRecDepth 100000
set_option maxHeartbeats 8000000
namespace Mine
open_top hd for PySem.Challenge.rw_ph0113_01
end Mine
end
section
open PySem PySem.W PyProof.Rows PySem.Calls
set_option Elab.async false
set_option maxRecDepth 100000
set_option maxHeartbeats 8000000
namespace Mine

abbrev Stay (h h' : Heap) : Prop := ∀ b o, h.get? b = some o → h'.get? b = some o
theorem Stay.rfl' {h : Heap} : Stay h h := fun _ _ e => e
theorem Stay.tr {h h' h'' : Heap} (a : Stay h h') (b : Stay h' h'') : Stay h h'' := fun x o e => b x o (a x o e)

def upd (m : Str → Option Value) (x : Str) (v : Value) : Str → Option Value := fun y => if y = x then some v else m y
theorem upd_same {m : Str → Option Value} {x : Str} {v : Value} : upd m x v x = some v := if_pos rfl
theorem upd_ne {m : Str → Option Value} {x y : Str} {v : Value} {r : Option Value} (h : y ≠ x) (e : m y = r) : upd m x v y = r := (if_neg h).trans e
def binding (binds : List (Str × Value)) : Str → Option Value := binds.foldl (fun m p => upd m p.1 p.2) fun _ => none
theorem binding_eq (binds : List (Str × Value)) : (fun y => binds.reverse.lookup y) = binding binds := by
  suffices h : ∀ (m : Str → Option Value), (fun y => (binds.reverse.lookup y).or (m y)) = binds.foldl (fun m p => upd m p.1 p.2) m by
    have := h fun _ => none
    unfold binding
    rw [← this]
    funext y
    simp
  induction binds with
  | nil => intro m; rfl
  | cons p r ih =>
    intro m
    rw [List.foldl_cons, ← ih]
    funext y
    rw [List.reverse_cons, List.lookup_append, Option.or_assoc]
    congr 1
    obtain ⟨x, v⟩ := p
    by_cases h : y = x
    · subst h; simp [upd, List.lookup_cons]
    · have hb : (y == x) = false := beq_eq_false_iff_ne.mpr h
      simp [upd, List.lookup_cons, hb, h]

/-- the frame: locals, the base heap (kept), the objects of the call's own -/
structure Own (g : Heap) (L : Addr) (h : Heap) (m : Str → Option Value) (nw : List (Addr × Obj)) : Prop where
  ns : h.Ns L m
  keep : Stay g h
  gL : g.get? L = none
  nws : ∀ p ∈ nw, h.get? p.1 = some p.2 ∧ p.1 ≠ L ∧ g.get? p.1 = none

theorem Own.stay {g h h' : Heap} {L : Addr} {m : Str → Option Value} {nw : List (Addr × Obj)} (F : Own g L h m nw) (k : Stay h h') : Own g L h' m nw :=
  ⟨F.ns.keeps k, F.keep.tr k, F.gL, fun p hp => ⟨k _ _ (F.nws p hp).1, (F.nws p hp).2⟩⟩
theorem Own.set {g h h' : Heap} {L : Addr} {m m' : Str → Option Value} {nw : List (Addr × Obj)} (F : Own g L h m nw) (hn : h'.Ns L m') (hs : Heap.SameBut L h h') : Own g L h' m' nw :=
  ⟨hn, fun b o e => (hs.2 b (fun q => by rw [q, F.gL] at e; cases e)).trans (F.keep b o e), F.gL, fun p hp => ⟨(hs.2 p.1 (F.nws p hp).2.1).trans (F.nws p hp).1, (F.nws p hp).2⟩⟩
theorem Own.sub {g h : Heap} {L : Addr} {m : Str → Option Value} {nw nw' : List (Addr × Obj)} (F : Own g L h m nw) (hs : ∀ p ∈ nw', p ∈ nw) : Own g L h m nw' :=
  ⟨F.ns, F.keep, F.gL, fun p hp => F.nws p (hs p hp)⟩
theorem Own.base {g g' h : Heap} {L : Addr} {m : Str → Option Value} {nw : List (Addr × Obj)} (F : Own g' L h m nw) (k : Stay g g') : Own g L h m nw := by
  have hn : ∀ a, g'.get? a = none → g.get? a = none := fun a ha => by
    cases e : g.get? a with
    | none => rfl
    | some o => rw [k _ _ e] at ha; cases ha
  exact ⟨F.ns, k.tr F.keep, hn _ F.gL, fun p hp => ⟨(F.nws p hp).1, (F.nws p hp).2.1, hn _ (F.nws p hp).2.2⟩⟩

/-- all but the locals and the named objects of one's own goes into the base -/
theorem Own.rebase {g h : Heap} {L : Addr} {m : Str → Option Value} {nw : List (Addr × Obj)} (F : Own g L h m nw) :
    ∃ g₁, Own g₁ L h m nw ∧ Stay g g₁ ∧ Stay g₁ h ∧ (∀ b o, h.get? b = some o → b ≠ L → (∀ p ∈ nw, p.1 ≠ b) → g₁.get? b = some o) := by
  have up : ∀ b o, h.get? b = some o → b ≠ L → (∀ p ∈ nw, p.1 ≠ b) → (hideAll h (L :: nw.map (·.1))).get? b = some o := fun b o e h1 h2 => by
    refine hideAll_get _ e fun q => ?_
    rcases List.mem_cons.mp q with q | q
    · exact h1 q
    · obtain ⟨p, hp, e⟩ := List.mem_map.mp q
      exact h2 p hp e
  have dn : Stay (hideAll h (L :: nw.map (·.1))) h := fun b o e => of_hideAll _ e
  refine ⟨hideAll h (L :: nw.map (·.1)), ⟨F.ns, dn, hideAll_none _ (.head _), fun p hp => ⟨(F.nws p hp).1, (F.nws p hp).2.1, hideAll_none _ (.tail _ (List.mem_map_of_mem hp))⟩⟩, fun b o e => ?_, dn, up⟩
  refine up b o (F.keep b o e) (fun q => by rw [q, F.gL] at e; cases e) fun p hp q => ?_
  rw [← q, (F.nws p hp).2.2] at e; cases e

theorem get_none {h : Heap} {a : Addr} (ha : h.objs.size ≤ a) : h.get? a = none := by
  cases e : h.get? a with
  | none => rfl
  | some o => exact absurd (Heap.lt_size e) (Nat.not_lt.mpr ha)

theorem Own.push {g h : Heap} {L : Addr} {m : Str → Option Value} {nw : List (Addr × Obj)} (F : Own g L h m nw) (o : Obj) (hf : o.isFreed = false := by rfl) :
    Own g L (h.push o) m ((h.objs.size, o) :: nw) := by
  have up : Stay h (h.push o) := fun b o e => Heap.get?_push_of_some _ e
  have F' := F.stay up
  refine ⟨F'.ns, F'.keep, F.gL, fun p hp => ?_⟩
  rcases List.mem_cons.mp hp with rfl | hp
  · refine ⟨Heap.get?_push_size _ hf, Nat.ne_of_gt F.ns.lt, ?_⟩
    cases e : g.get? h.objs.size with
    | none => rfl
    | some o' => exact absurd (Heap.lt_size (F.keep _ _ e)) (Nat.lt_irrefl _)
  · exact F'.nws p hp
theorem Own.push' {g h : Heap} {L : Addr} {m : Str → Option Value} {nw : List (Addr × Obj)} (F : Own g L h m nw) (o : Obj) : Own g L (h.push o) m nw := F.stay fun _ _ e => Heap.get?_push_of_some _ e
theorem Own.fresh {g h : Heap} {L : Addr} {m : Str → Option Value} {nw : List (Addr × Obj)} (F : Own g L h m nw) : ∀ p ∈ nw, p.1 < h.objs.size := fun p hp => Heap.lt_size (F.nws p hp).1

/-- the world around a call -/
structure Amb (w : World) (g : Heap) : Prop where
  X : (hd.heap_39 w.params).In g
  T : ∃ mean mg mb, Top hd.view_39 (looseW hd.view_39 []) mean mg mb g
theorem Amb.stay {w : World} {g h : Heap} (a : Amb w g) (k : Stay g h) : Amb w h := ⟨a.X.keeps k, let ⟨x, y, z, t⟩ := a.T; ⟨x, y, z, t.keeps k⟩⟩

abbrev MP (w : World) : Model := model Challenge.rw_ph0113_01.row.prog w
abbrev NoE : Value → Shared → Prop := fun _ _ => False
structure Room (n u : Nat) (A : Around) : Prop where
  hh : A.handled = none
  hd : A.depth + n < recursionLimit
  hu : A.units + u < cLine
theorem Room.deeper {n u n' u' : Nat} {A : Around} {env : Env} (r : Room n u A) (hn : n' + 1 ≤ n) (hu : u' + 3 ≤ u) : Room n' u' (A.deeper env) :=
  ⟨r.hh, by have h := r.hd; show A.depth + 1 + n' < recursionLimit; omega, by have h := r.hu; show A.units + 3 + u' < cLine; omega⟩

theorem enter {w : World} {A : Around} {s : Shared}
    {name qual : Str} {params : Arguments} {body : List Stmt} {scope : Scope} {dV kV doc pm cdv ct oc : Value} {an od : Option Addr} {osl : Array (Option Value)} {f : Addr} {vs : List Value} (binds : List (Str × Value))
    {Q E : Value → Shared → Prop} (m : Str → Option Value)
    (X : Amb w s.heap)
    (ho : (hd.heap_39 w.params).lookup f = some ⟨oc, od, .func (fnOf name qual params body scope dV kV doc pm an cdv ct), osl⟩) (hcd : codeIn (hd.heap_39 w.params) cdv qual = true) (hroom : A.depth < recursionLimit)
    (hbind : bindArgs (fnOf name qual params body scope dV kV doc pm an cdv ct) ⟨vs, []⟩ = pure binds)
    (hcell : ∀ x ∈ scope.names, x.2 ≠ .cell)
    (hloc : ∀ y ∈ binds, scope.names.lookup y.1 = some .local)
    (hco : scope.isCoroutine = false) (hgen : scope.isGenerator = false) (hk : scope.kind = .function)
    (hm : binding binds = m)
    (h : ∀ g L h₁ tk, g = s.heap → Own g L h₁ m [] → Amb w g →
      wpAny (MP w) (A.deeper (envOf qual scope L f cdv)) (execs body (envOf qual scope L f cdv))
        (fun fl s' => Q (match fl with | .ret v => v | _ => .none) s') NoE { s with heap := h₁, toks := tk }) :
    wpAny (MP w) A (call (.ref f) vs) Q E s := by
  refine wpAny_call ?_
  obtain ⟨_, _, _, T⟩ := X.T
  refine codeAny_call_def (fd := fnOf name qual params body scope dV kV doc pm an cdv ct) (body := body) (binds := binds) hroom (X.X _ _ ho) rfl T.nolimit (codeRec_of X.X hcd) rfl (BindsTo.of_eq hbind) hcell hloc (fun h₁ hns hk₁ => ?_) hco hgen hk
  rw [binding_eq, hm] at hns
  exact wpAny_mono (h _ s.heap.objs.size h₁ _ rfl ⟨hns, hk₁, get_none (Nat.le_refl _), fun p hp => nomatch hp⟩ X) (fun fl s' hl => hl) fun _ _ y => y.elim
end Mine
end
section
open PySem PySem.W PyProof.Rows PySem.Calls
set_option Elab.async false
set_option maxRecDepth 100000
set_option maxHeartbeats 8000000
namespace Mine
section
variable {w : World} {A : Around} {E : Value → Shared → Prop} {s : Shared} {env : Env} {g : Heap} {L : Addr} {m : Str → Option Value} {nw : List (Addr × Obj)}

theorem nmL {x : Str} {pos : Pos} {v : Value} {Q : Value → Shared → Prop} (F : Own g L s.heap m nw) (hv : m x = some v) (h : Q v s)
    (hL : env.locals = L := by rfl) (hk : env.scope.kind = .function := by rfl) (hx : env.kindOf x = some .local := by rfl) (hd : (x == ("__debug__" : Str)) = false := by decide) :
    wpAny (MP w) A (eval (.Name x pos) env) Q E s := wpAny_Name (wpAny_loadName_local hk hx (hL ▸ F.ns) hv h) hd
theorem ldL {x : Str} {v : Value} {Q : Value → Shared → Prop} (F : Own g L s.heap m nw) (hv : m x = some v) (h : Q v s)
    (hL : env.locals = L := by rfl) (hk : env.scope.kind = .function := by rfl) (hx : env.kindOf x = some .local := by rfl) :
    wpAny (MP w) A (loadName env x) Q E s := wpAny_loadName_local hk hx (hL ▸ F.ns) hv h
theorem stL {x : Str} {v : Value} {Q : Unit → Shared → Prop} (F : Own g L s.heap m nw)
    (h : ∀ h', Own g L h' (upd m x v) nw → Q () { s with heap := h', toks := s.toks + 1 })
    (hL : env.locals = L := by rfl) (hk : env.scope.kind = .function := by rfl) (hx : env.kindOf x = some .local := by rfl) :
    wpAny (MP w) A (storeName env x v) Q E s := by
  subst hL
  exact wpAny_storeName_local hx F.ns (fun h' hn hs => h h' (F.set hn hs)) (by rw [hk]; rfl)
theorem nmG {x : Str} {pos : Pos} {v : Value} {Q : Value → Shared → Prop} (F : Own g L s.heap m nw) (X : Amb w g) (e : nsIn (hd.heap_39 w.params) mainGlobals x = some (some v)) (h : Q v s)
    (hG : env.globals = mainGlobals := by rfl) (hk : env.scope.kind = .function := by rfl) (hx : env.kindOf x = some .globalImplicit := by rfl) (hd : (x == ("__debug__" : Str)) = false := by decide) :
    wpAny (MP w) A (eval (.Name x pos) env) Q E s := by
  obtain ⟨_, mg, mb, T⟩ := X.T
  exact Name_function_global hk hx (loadGlobal_global (by rw [hG]; exact T.g.keeps F.keep) (mg_of X.X T.g e) h) hd
theorem nmB {x : Str} {pos : Pos} {v : Value} {Q : Value → Shared → Prop} (F : Own g L s.heap m nw) (X : Amb w g) (e : nsIn (hd.heap_39 w.params) mainGlobals x = some none) (hv : bootBuiltins x = some v) (hn : x ≠ "__name__") (h : Q v s)
    (hG : env.globals = mainGlobals := by rfl) (hB : env.builtins = builtinsNs := by rfl) (hk : env.scope.kind = .function := by rfl) (hx : env.kindOf x = some .globalImplicit := by rfl) (hd : (x == ("__debug__" : Str)) = false := by decide) :
    wpAny (MP w) A (eval (.Name x pos) env) Q E s := by
  obtain ⟨_, mg, mb, T⟩ := X.T
  exact Name_function_global hk hx (loadGlobal_builtin (by rw [hG]; exact T.g.keeps F.keep) (mg_none_of X.X T.g e) (by rw [hB]; exact T.b.keeps F.keep) ((T.builtins x hn).trans hv) h) hd

theorem newListO {vs : List Value} {Q : Value → Shared → Prop} (F : Own g L s.heap m nw)
    (h : ∀ a h', (∀ p ∈ nw, p.1 < a) → Own g L h' m ((a, { cls := .type "list", data := .seq vs.toArray }) :: nw) → Q (.ref a) { s with heap := h' }) (hsz : vs.length ≤ sizeLine := by size_fits) :
    wpAny (MP w) A (newList vs) Q E s := wpAny_newObj_type (h _ _ F.fresh (F.push _)) (by show vs.toArray.size ≤ sizeLine; rw [List.size_toArray]; exact hsz)
theorem newTupleO {vs : List Value} {Q : Value → Shared → Prop} (F : Own g L s.heap m nw)
    (h : ∀ a h', (∀ p ∈ nw, p.1 < a) → Own g L h' m ((a, { cls := .type "tuple", data := .seq vs.toArray }) :: nw) → Q (.ref a) { s with heap := h' }) (hsz : vs.length ≤ sizeLine := by size_fits) :
    wpAny (MP w) A (newTuple vs) Q E s := wpAny_newObj_type (h _ _ F.fresh (F.push _)) (by show vs.toArray.size ≤ sizeLine; rw [List.size_toArray]; exact hsz)

theorem unpackO {a : Addr} {vs : List Value} {n : Nat} {Q : List Value → Shared → Prop} (F : Own g L s.heap m ((a, { cls := .type "tuple", data := .seq vs.toArray }) :: nw)) (hh : A.handled = none) (hn : n = vs.length)
    (h : ∀ h', Own g L h' m nw → Q vs { s with heap := h' }) : wpAny (MP w) A (unpackItems (.ref a) n none) Q E s := by
  subst hn
  have := unpackItems_tuple (prog := Challenge.rw_ph0113_01.row.prog) (w := w) (E := E) (Q := Q) hh (s := s) (t := a) (items := vs.toArray) ⟨_, (F.nws _ (.head _)).1, rfl, _, rfl⟩
    fun h' he => by
      have := h h' ((F.sub fun p hp => .tail _ hp).stay fun b o e => he b o (Nat.ne_of_lt (Heap.lt_size e)) e)
      simpa using this
  simpa using this

/-- what a turn of a loop must leave -/
def TurnEnd (g : Heap) (L : Addr) (J : (Str → Option Value) → List (Addr × Obj) → Prop) (s : Shared) (Q : Flow → Shared → Prop) (f : Flow) (s' : Shared) : Prop :=
  match f with
  | .ret v => Q (.ret v) s'
  | .brk => Q .next s'
  | _ => ∃ h' tk' m' nw', s' = { s with heap := h', toks := tk' } ∧ Own g L h' m' nw' ∧ J m' nw'

/-- a for, met: the source's value is at hand -/
def ForHere (w : World) (A : Around) (env : Env) (x : Str) (px : Pos) (body : List Stmt) (Q : Flow → Shared → Prop) (xv : Value) (s : Shared) : Prop :=
  wpAny (MP w) A (pyIter xv) (fun it s₂ => codeAny (MP w) A (.forLoop (.Name x px) it body [] env) (fun r s' => match r with | .ok f => Q f s' | .error e => cameBackBy (MP w) A env NoE e s') s₂) NoE s
theorem for_here {x : Str} {px pos : Pos} {iter : Expr} {body : List Stmt} {Q : Flow → Shared → Prop}
    (h : wpAny (MP w) A (eval iter env) (ForHere w A env x px body Q) NoE s) (hs : ∀ x, foldedSetIterable iter env x = pure x := by intro _; rfl) :
    wpAny (MP w) A (exec (.For (.Name x px) iter body [] pos) env) Q NoE s := wpAny_For (wpAny_mono h (fun _ _ h => h) fun _ _ e => e) hs

theorem for_rangeG {x : Str} {px : Pos} {body : List Stmt} {Q : Flow → Shared → Prop} {r : Addr} {a b : Int} {t u v : Tok} (n : Nat)
    (J : Nat → (Str → Option Value) → List (Addr × Obj) → Prop)
    (hh : A.handled = none) (F : Own g L s.heap m nw) (hr : IsRange s.heap r a b 1 t u v) (ha : -(2 ^ 62) ≤ a) (ha' : a < 2 ^ 62) (hb : -(2 ^ 62) ≤ b) (hb' : b < 2 ^ 62) (hn : n = (b - a).toNat)
    (h0 : J 0 m nw)
    (turn : ∀ i m₁ nw₁ g₁ h tk tx, i < n → J i m₁ nw₁ → Stay g g₁ → Own g₁ L h (upd m₁ x (.int (a + (i : Int)) tx)) nw₁ →
      wpAny (MP w) A (execs body env) (TurnEnd g₁ L (J (i + 1)) s Q) NoE { s with heap := h, toks := tk })
    (done : ∀ m₁ nw₁ h tk, J n m₁ nw₁ → Own g L h m₁ nw₁ → Q .next { s with heap := h, toks := tk })
    (hL : env.locals = L := by rfl) (hk : env.scope.kind = .function := by rfl) (hx : env.kindOf x = some .local := by rfl) :
    ForHere w A env x px body Q (.ref r) s := by
  subst hL
  have hsm : Builtin.Range.small a b 1 = true := small_one ha ha' hb hb'
  have hsz : Builtin.Range.rangeSize a b 1 = (n : Int) := by rw [rangeSize_one, hn]; split <;> omega
  unfold ForHere
  refine wpAny_pyIter_range hr hsm ?_
  have up : Stay s.heap (s.heap.push { cls := .type "range_iterator", data := .fields #[rawInt a, rawInt (Builtin.Range.rangeSize a b 1), rawInt 1] }) := fun b o e => Heap.get?_push_of_some _ e
  have hI : IsRangeIter (s.heap.push { cls := .type "range_iterator", data := .fields #[rawInt a, rawInt (Builtin.Range.rangeSize a b 1), rawInt 1] }) s.heap.objs.size a (n : Int) 1 := by rw [← hsz]; exact Heap.get?_push_size _ rfl
  have hIL : s.heap.objs.size ≠ env.locals := Ne.symm (Nat.ne_of_lt F.ns.lt)
  have hIn0 : ∀ p ∈ nw, p.1 ≠ s.heap.objs.size := fun p hp => Nat.ne_of_lt (F.fresh p hp)
  have hgI : g.get? s.heap.objs.size = none := by
    cases e : g.get? s.heap.objs.size with
    | none => rfl
    | some o' => exact absurd (Heap.lt_size (F.keep _ _ e)) (Nat.lt_irrefl _)
  have F0 := F.stay up
  generalize hI0 : s.heap.objs.size = I at *
  generalize s.heap.push { cls := .type "range_iterator", data := .fields #[rawInt a, rawInt (Builtin.Range.rangeSize a b 1), rawInt 1] } = H0 at *
  refine codeAny_forLoop
    (fun k s' => ∃ h' tk m' nw' i, s' = { s with heap := h', toks := tk } ∧ IsRangeIter h' I (a + (i : Nat) * 1) ((n : Int) - (i : Nat)) 1 ∧ Own g env.locals h' m' nw' ∧ J i m' nw' ∧ i ≤ n ∧ k = n + 1 - i ∧ ∀ p ∈ nw', p.1 ≠ I) ?_ (n + 1)
    ⟨H0, s.toks, m, nw, 0, rfl, by simpa using hI, F0, h0, Nat.zero_le _, rfl, hIn0⟩
  rintro k s' ⟨h', tk, m', nw', i, rfl, hit', F', hJ, hi, rfl, hIn⟩
  by_cases hlt : i < n
  · refine wpAny_pyNext_range_item hit' (by omega) fun h₁ hit₁ hs₁ => ?_
    have F₁ : Own g env.locals h₁ m' nw' := ⟨F'.ns.sameBut hs₁ (Ne.symm hIL), fun b o e => (hs₁.2 b (fun q => by rw [q, hgI] at e; cases e)).trans (F'.keep b o e), F'.gL,
      fun p hp => ⟨(hs₁.2 p.1 (hIn p hp)).trans (F'.nws p hp).1, (F'.nws p hp).2⟩⟩
    refine wpAny_assign_Name (wpAny_storeName_local hx F₁.ns (fun h₂ hn₂ hs₂ => ?_) (by rw [hk]; rfl))
    have F₂ : Own g env.locals h₂ (upd m' x (.int (a + (i : Int)) tk)) nw' := by
      have e : a + (i : Int) = a + (i : Nat) * 1 := by simp
      rw [e]; exact F₁.set hn₂ hs₂
    have hit₂ := (hs₂.2 I hIL).trans hit₁
    obtain ⟨g₁, F₃, k1, _, k3⟩ := F₂.rebase
    have hgI₁ := k3 I _ hit₂ hIL hIn
    refine wpAny_mono (turn i m' nw' g₁ h₂ _ tk hlt hJ k1 F₃) (fun f s₃ h₃ => ?_) fun _ _ e => e.elim
    have fin : (∃ h' tk' m₂ nw₂, s₃ = { s with heap := h', toks := tk' } ∧ Own g₁ env.locals h' m₂ nw₂ ∧ J (i + 1) m₂ nw₂) → ∃ k', k' < n + 1 - i ∧ ∃ h' tk m' nw' i, s₃ = { s with heap := h', toks := tk } ∧ IsRangeIter h' I (a + (i : Nat) * 1) ((n : Int) - (i : Nat)) 1 ∧ Own g env.locals h' m' nw' ∧ J i m' nw' ∧ i ≤ n ∧ k' = n + 1 - i ∧ ∀ p ∈ nw', p.1 ≠ I := by
      rintro ⟨h₄, tk₄, m₂, nw₂, rfl, F₄, J₄⟩
      refine ⟨n + 1 - (i + 1), by omega, h₄, tk₄, m₂, nw₂, i + 1, rfl, ?_, F₄.base k1, J₄, hlt, rfl, fun p hp q => ?_⟩
      rotate_left
      · have h9 := (F₄.nws p hp).2.2; rw [q, hgI₁] at h9; cases h9
      have e1 : a + ((i + 1 : Nat) : Int) * 1 = a + (i : Int) * 1 + 1 := by push_cast; omega
      have e2 : (n : Int) - ((i + 1 : Nat) : Int) = (n : Int) - (i : Int) - 1 := by push_cast; omega
      rw [e1, e2]
      exact F₄.keep _ _ hgI₁
    cases f with
    | ret v => exact h₃
    | brk => exact h₃
    | next => exact fin h₃
    | cont => exact fin h₃
  · have hin : i = n := by omega
    subst hin
    refine wpAny_pyNext_range_end hh hit' (by omega) fun h₁ he₁ => wpAny_execs_nil ?_
    refine done m' nw' h₁ tk hJ ⟨F'.ns.extBut he₁ (Ne.symm hIL), fun b o e => he₁ b o (fun q => by rw [q, hgI] at e; cases e) (F'.keep b o e), F'.gL, fun p hp => ⟨he₁ _ _ (hIn p hp) (F'.nws p hp).1, (F'.nws p hp).2⟩⟩

theorem for_range {x : Str} {px : Pos} {body : List Stmt} {Q : Flow → Shared → Prop} {r : Addr} {a b : Int} {t u v : Tok} (n : Nat)
    (J : Nat → (Str → Option Value) → List (Addr × Obj) → Prop)
    (hh : A.handled = none) (F : Own g L s.heap m nw) (hr : IsRange s.heap r a b 1 t u v) (ha : -(2 ^ 62) ≤ a) (ha' : a < 2 ^ 62) (hb : -(2 ^ 62) ≤ b) (hb' : b < 2 ^ 62) (hn : n = (b - a).toNat)
    (h0 : J 0 m nw) (_hadr : ∀ i m' nw', J i m' nw' → nw'.map (·.1) = nw.map (·.1))
    (turn : ∀ i m₁ nw₁ g₁ h tk tx, i < n → J i m₁ nw₁ → Stay g g₁ → Own g₁ L h (upd m₁ x (.int (a + (i : Int)) tx)) nw₁ →
      wpAny (MP w) A (execs body env) (TurnEnd g₁ L (J (i + 1)) s Q) NoE { s with heap := h, toks := tk })
    (done : ∀ m₁ nw₁ h tk, J n m₁ nw₁ → Own g L h m₁ nw₁ → Q .next { s with heap := h, toks := tk })
    (hL : env.locals = L := by rfl) (hk : env.scope.kind = .function := by rfl) (hx : env.kindOf x = some .local := by rfl) :
    ForHere w A env x px body Q (.ref r) s :=
  for_rangeG n J hh F hr ha ha' hb hb' hn h0 turn done hL hk hx

theorem for_list {x : Str} {px : Pos} {body : List Stmt} {Q : Flow → Shared → Prop} {l : Addr} {items : Array Value}
    (J : Nat → (Str → Option Value) → List (Addr × Obj) → Prop)
    (hh : A.handled = none) (F : Own g L s.heap m nw) (hl : g.IsList l items)
    (h0 : J 0 m nw) (hadr : ∀ i m' nw', J i m' nw' → nw'.map (·.1) = nw.map (·.1))
    (turn : ∀ i v m₁ nw₁ g₁ h tk, items[i]? = some v → J i m₁ nw₁ → Stay g g₁ → Own g₁ L h (upd m₁ x v) nw₁ →
      wpAny (MP w) A (execs body env) (TurnEnd g₁ L (J (i + 1)) s Q) NoE { s with heap := h, toks := tk })
    (done : ∀ m₁ nw₁ h tk, J items.size m₁ nw₁ → Own g L h m₁ nw₁ → Q .next { s with heap := h, toks := tk })
    (hL : env.locals = L := by rfl) (hk : env.scope.kind = .function := by rfl) (hx : env.kindOf x = some .local := by rfl) :
    ForHere w A env x px body Q (.ref l) s := by
  subst hL
  unfold ForHere
  have hl0 : s.heap.IsList l items := hl.at fun o e => F.keep _ o e
  refine wpAny_pyIter_list hl0 ?_
  have up : Stay s.heap (s.heap.push { cls := .type "list_iterator", data := .fields #[.ref l, .int 0 0] }) := fun b o e => Heap.get?_push_of_some _ e
  have hI : (s.heap.push { cls := .type "list_iterator", data := .fields #[.ref l, .int 0 0] }).IsListIter s.heap.objs.size l 0 := ⟨_, Heap.get?_push_size _ rfl, rfl, rfl⟩
  have hIL : s.heap.objs.size ≠ env.locals := Ne.symm (Nat.ne_of_lt F.ns.lt)
  have hInw : ∀ nw' : List (Addr × Obj), nw'.map (·.1) = nw.map (·.1) → ∀ p ∈ nw', p.1 ≠ s.heap.objs.size := fun nw' e p hp => by
    have : p.1 ∈ nw.map (·.1) := e ▸ List.mem_map_of_mem hp
    obtain ⟨q, hq, e'⟩ := List.mem_map.mp this
    rw [← e']; exact Nat.ne_of_lt (F.fresh q hq)
  have hgI : g.get? s.heap.objs.size = none := by
    cases e : g.get? s.heap.objs.size with
    | none => rfl
    | some o' => exact absurd (Heap.lt_size (F.keep _ _ e)) (Nat.lt_irrefl _)
  have F0 := F.stay up
  generalize hI0 : s.heap.objs.size = I at *
  generalize s.heap.push { cls := .type "list_iterator", data := .fields #[.ref l, .int 0 0] } = H0 at *
  refine codeAny_forLoop
    (fun k s' => ∃ h' tk m' nw' i, s' = { s with heap := h', toks := tk } ∧ h'.IsListIter I l i ∧ Own g env.locals h' m' nw' ∧ J i m' nw' ∧ i ≤ items.size ∧ k = items.size + 1 - i) ?_ (items.size + 1)
    ⟨H0, s.toks, m, nw, 0, rfl, hI, F0, h0, Nat.zero_le _, rfl⟩
  rintro k s' ⟨h', tk, m', nw', i, rfl, hit', F', hJ, hi, rfl⟩
  have hl' : h'.IsList l items := hl.at fun o e => F'.keep _ o e
  by_cases hlt : i < items.size
  · refine wpAny_pyNext_list_item hit' hl' (x := items[i]) (by simp [hlt]) fun h₁ hit₁ hs₁ => ?_
    have F₁ : Own g env.locals h₁ m' nw' := ⟨F'.ns.sameBut hs₁ (Ne.symm hIL), fun b o e => (hs₁.2 b (fun q => by rw [q, hgI] at e; cases e)).trans (F'.keep b o e), F'.gL,
      fun p hp => ⟨(hs₁.2 p.1 (hInw _ (hadr _ _ _ hJ) p hp)).trans (F'.nws p hp).1, (F'.nws p hp).2⟩⟩
    refine wpAny_assign_Name (wpAny_storeName_local hx F₁.ns (fun h₂ hn₂ hs₂ => ?_) (by rw [hk]; rfl))
    have F₂ : Own g env.locals h₂ (upd m' x items[i]) nw' := F₁.set hn₂ hs₂
    obtain ⟨oI, hoI, r1, r2⟩ := hit₁
    have hit₂ := (hs₂.2 I hIL).trans hoI
    obtain ⟨g₁, F₃, k1, _, k3⟩ := F₂.rebase
    have hgI₁ := k3 I _ hit₂ hIL (hInw _ (hadr _ _ _ hJ))
    refine wpAny_mono (turn i items[i] m' nw' g₁ h₂ _ (by simp [hlt]) hJ k1 F₃) (fun f s₃ h₃ => ?_) fun _ _ e => e.elim
    have fin : (∃ h' tk' m₂ nw₂, s₃ = { s with heap := h', toks := tk' } ∧ Own g₁ env.locals h' m₂ nw₂ ∧ J (i + 1) m₂ nw₂) → ∃ k', k' < items.size + 1 - i ∧ ∃ h' tk m' nw' i, s₃ = { s with heap := h', toks := tk } ∧ h'.IsListIter I l i ∧ Own g env.locals h' m' nw' ∧ J i m' nw' ∧ i ≤ items.size ∧ k' = items.size + 1 - i := by
      rintro ⟨h₄, tk₄, m₂, nw₂, rfl, F₄, J₄⟩
      exact ⟨items.size + 1 - (i + 1), by omega, h₄, tk₄, m₂, nw₂, i + 1, rfl, ⟨oI, F₄.keep _ _ hgI₁, r1, r2⟩, F₄.base k1, J₄, hlt, rfl⟩
    cases f with
    | ret v => exact h₃
    | brk => exact h₃
    | next => exact fin h₃
    | cont => exact fin h₃
  · have hin : i = items.size := by omega
    refine wpAny_pyNext_list_end hh hit' hl' (by simp [hin]) fun h₁ he₁ => wpAny_execs_nil ?_
    exact done m' nw' h₁ tk (hin ▸ hJ) ⟨F'.ns.extBut he₁ (Ne.symm hIL), fun b o e => he₁ b o (fun q => by rw [q, hgI] at e; cases e) (F'.keep b o e), F'.gL, fun p hp => ⟨he₁ _ _ (hInw _ (hadr _ _ _ hJ) p hp) (F'.nws p hp).1, (F'.nws p hp).2⟩⟩

/-- a while by what holds between the turns and a measure -/
theorem while_inv {test : Expr} {body : List Stmt} {pos : Pos} {Q : Flow → Shared → Prop} (J : Nat → (Str → Option Value) → List (Addr × Obj) → Prop) (n : Nat)
    (F : Own g L s.heap m nw) (h0 : J n m nw)
    (turn : ∀ k m₁ nw₁ h tk, J k m₁ nw₁ → Own g L h m₁ nw₁ →
      wpAny (MP w) A (isTrue test env (eval test env)) (fun b s₂ =>
        if b then wpAny (MP w) A (execs body env) (TurnEnd g L (fun m' nw' => ∃ k', k' < k ∧ J k' m' nw') s Q) NoE s₂ else Q .next s₂) NoE { s with heap := h, toks := tk }) :
    wpAny (MP w) A (exec (.While test body [] pos) env) Q NoE s := by
  refine wpAny_While ?_
  refine codeAny_whileLoop (fun k s' => ∃ h' tk m' nw', s' = { s with heap := h', toks := tk } ∧ Own g L h' m' nw' ∧ J k m' nw') ?_ n ⟨s.heap, s.toks, m, nw, rfl, F, h0⟩
  rintro k s' ⟨h', tk, m', nw', rfl, F', hJ⟩
  refine wpAny_mono (turn k m' nw' h' tk hJ F') (fun b s₂ h₂ => ?_) fun _ _ e => e.elim
  cases b with
  | false => exact wpAny_execs_nil h₂
  | true =>
    refine wpAny_mono h₂ (fun f s₃ h₃ => ?_) fun _ _ e => e.elim
    have fin : (∃ h' tk' m₂ nw₂, s₃ = { s with heap := h', toks := tk' } ∧ Own g L h' m₂ nw₂ ∧ ∃ k', k' < k ∧ J k' m₂ nw₂) → ∃ k', k' < k ∧ ∃ h' tk m' nw', s₃ = { s with heap := h', toks := tk } ∧ Own g L h' m' nw' ∧ J k' m' nw' := by
      rintro ⟨h₄, tk₄, m₂, nw₂, rfl, F₄, k', hk', J₄⟩
      exact ⟨k', hk', h₄, tk₄, m₂, nw₂, rfl, F₄, J₄⟩
    cases f with
    | ret v => exact h₃
    | brk => exact h₃
    | next => exact fin h₃
    | cont => exact fin h₃
end
end Mine
end
section
open PySem PySem.W PyProof.Rows PySem.Calls PySem.Builtin PySem.Builtin.Str
set_option Elab.async false
set_option maxRecDepth 100000
set_option maxHeartbeats 8000000
namespace Mine

/-- a text by its signs -/
def S (l : List Nat) : Str := ⟨l.toArray⟩
theorem S_cps (l : List Nat) : (S l).cps.toList = l := rfl
@[simp] theorem S_len (l : List Nat) : (S l).length = l.length := by show l.toArray.size = _; simp
theorem S_inj {a b : List Nat} (h : S a = S b) : a = b := by
  have := congrArg (fun x : Str => x.cps.toList) h
  exact this
theorem S_app (a b : List Nat) : S a ++ S b = S (a ++ b) := by
  show Str.mk (a.toArray ++ b.toArray) = Str.mk _
  simp
theorem S_beq (a b : List Nat) : (S a == S b) = decide (a = b) := by
  by_cases h : a = b
  · subst h; simp
  · have : ¬ S a = S b := fun e => h (S_inj e)
    simp [h, this]
theorem S_of (x : Str) : x = S x.cps.toList := by cases x; rfl

def cp (n d : Nat) : Option Int → Nat
  | none => d
  | some i => (max 0 (min (if i < 0 then i + n else i) n)).toNat

theorem range_pick (l : List Nat) (a b : Nat) (hb : b ≤ l.length) :
    ((List.range (b - a)).map fun k => a + k).filterMap (fun i => l.toArray[i]?) = (l.take b).drop a := by
  have h : ∀ n, a + n ≤ l.length → ((List.range n).map fun k => a + k).filterMap (fun i => l.toArray[i]?) = (l.drop a).take n := by
    intro n
    induction n with
    | zero => intro _; simp
    | succ n ih =>
      intro hn
      rw [List.range_succ, List.map_append, List.filterMap_append, ih (by omega)]
      simp only [List.map_cons, List.map_nil, List.filterMap_cons, List.filterMap_nil]
      have hlt : a + n < l.length := by omega
      have e : l.toArray[a + n]? = some l[a + n] := by simp [hlt]
      rw [e, List.take_add_one]
      simp [hlt]
  by_cases hab : a ≤ b
  · rw [h (b - a) (by omega), List.take_drop]
    congr 2
    omega
  · have : b - a = 0 := by omega
    rw [this]
    simp only [List.range_zero, List.map_nil, List.filterMap_nil]
    symm
    apply List.drop_eq_nil_of_le
    rw [List.length_take]; omega

theorem slice_S (l : List Nat) (lo hi : Option Int) : Txt.slice (S l) lo hi = S ((l.take (cp l.length l.length hi)).drop (cp l.length 0 lo)) := by
  have hb : cp l.length l.length hi ≤ l.length := by unfold cp; split <;> omega
  have e : (strSliceIndices lo hi 1 l.length) = ((List.range (cp l.length l.length hi - cp l.length 0 lo)).map fun k => cp l.length 0 lo + k) := by
    have key : ∀ (a b : Int), 0 ≤ a → 0 ≤ b → sliceRange a b 1 = (List.range (b.toNat - a.toNat)).map fun k => a.toNat + k := by
      intro a b ha hb
      unfold sliceRange
      simp only [show (1 : Int) > 0 by decide, if_true, Int.ediv_one]
      have h1 : (if a < b then b - a + 1 - 1 else 0 : Int).toNat = b.toNat - a.toNat := by split <;> omega
      rw [h1]
      apply List.map_congr_left
      intro k _
      omega
    unfold strSliceIndices
    simp only [show (1 : Int) > 0 by decide, if_true]
    cases lo <;> cases hi <;> simp only [cp] <;> rw [key _ _ (by omega) (by omega)] <;> simp
  unfold Txt.slice
  rw [S_len, e]
  have h2 : (((List.range (cp l.length l.length hi - cp l.length 0 lo)).map fun k => cp l.length 0 lo + k).filterMap ((S l).cps[·]?)) = (l.take (cp l.length l.length hi)).drop (cp l.length 0 lo) := range_pick l _ _ hb
  rw [h2]
  split
  · rename_i hc
    have hc' : cp l.length l.length hi - cp l.length 0 lo = l.length := by
      simp only [List.length_map, List.length_range, Bool.and_eq_true, beq_iff_eq] at hc
      exact hc.2
    have h3 : cp l.length 0 lo = 0 ∨ l.length = 0 := by omega
    have h4 : cp l.length l.length hi = l.length := by omega
    rw [h4, List.take_length]
    rcases h3 with h3 | h3
    · rw [h3, List.drop_zero]
    · have : l = [] := List.length_eq_zero_iff.mp h3
      subst this; simp
  · rfl


theorem slice_ss {l : List Nat} {i j : Int} (hi : 0 ≤ i) (hj : 0 ≤ j) : Txt.slice (S l) (some i) (some j) = S ((l.take j.toNat).drop i.toNat) := by
  rw [slice_S]
  have e1 : cp l.length l.length (some j) = min j.toNat l.length := by simp only [cp]; omega
  have e2 : cp l.length 0 (some i) = min i.toNat l.length := by simp only [cp]; omega
  rw [e1, e2]
  congr 1
  rw [show l.take (min j.toNat l.length) = l.take j.toNat by rw [List.take_eq_take_iff]; omega]
  by_cases h : i.toNat ≤ l.length
  · rw [Nat.min_eq_left h]
  · rw [Nat.min_eq_right (by omega), List.drop_eq_nil_of_le (by rw [List.length_take]; omega), List.drop_eq_nil_of_le (by rw [List.length_take]; omega)]
theorem slice_sn {l : List Nat} {i : Int} (hi : 0 ≤ i) : Txt.slice (S l) (some i) none = S (l.drop i.toNat) := by
  rw [slice_S]
  have e2 : cp l.length 0 (some i) = min i.toNat l.length := by simp only [cp]; omega
  have e1 : cp l.length l.length none = l.length := rfl
  rw [e1, e2, List.take_length]
  congr 1
  by_cases h : i.toNat ≤ l.length
  · rw [Nat.min_eq_left h]
  · rw [Nat.min_eq_right (by omega), List.drop_eq_nil_of_le (by omega), List.drop_eq_nil_of_le (by omega)]
theorem slice_ns {l : List Nat} {j : Int} (hj : 0 ≤ j) : Txt.slice (S l) none (some j) = S (l.take j.toNat) := by
  rw [slice_S]
  have e1 : cp l.length l.length (some j) = min j.toNat l.length := by simp only [cp]; omega
  have e2 : cp l.length 0 none = 0 := rfl
  rw [e1, e2, List.drop_zero]
  congr 1
  rw [List.take_eq_take_iff]; omega
theorem slice_nneg {l : List Nat} {j : Int} (hj : j < 0) : Txt.slice (S l) none (some j) = S (l.take (l.length - (-j).toNat)) := by
  rw [slice_S]
  have e1 : cp l.length l.length (some j) = l.length - (-j).toNat := by simp only [cp]; omega
  have e2 : cp l.length 0 none = 0 := rfl
  rw [e1, e2, List.drop_zero]
theorem slice_nn {l : List Nat} : Txt.slice (S l) none none = S l := by
  rw [slice_S]
  have e1 : cp l.length l.length none = l.length := rfl
  have e2 : cp l.length 0 none = 0 := rfl
  rw [e1, e2, List.take_length, List.drop_zero]

theorem item_S {l : List Nat} {i : Int} (hi : 0 ≤ i) (_h : i < l.length) : Txt.item (S l) i = S [l.getD i.toNat 0] := by
  unfold Txt.item Txt.charAt
  have e : PySem.seqIndex? i (S l).length = some i.toNat := by
    unfold PySem.seqIndex?
    rw [S_len]
    have h1 : ¬ i < 0 := by omega
    have h2 : 0 ≤ i ∧ i < l.length := by omega
    simp [h1, h2]
  rw [e]
  simp [S, List.getD]
theorem item_Sneg {l : List Nat} {i : Int} (hi : i < 0) (_h : -(l.length : Int) ≤ i) : Txt.item (S l) i = S [l.getD (l.length - (-i).toNat) 0] := by
  unfold Txt.item Txt.charAt
  have e : PySem.seqIndex? i (S l).length = some (l.length - (-i).toNat) := by
    unfold PySem.seqIndex?
    rw [S_len]
    have h2 : 0 ≤ i + l.length ∧ i + l.length < l.length := by omega
    have h3 : (i + l.length).toNat = l.length - (-i).toNat := by omega
    simp [hi, h2, h3]
  rw [e]
  simp [S, List.getD]

section
variable {w : World} {A : Around} {E : Value → Shared → Prop} {s : Shared} {g : Heap} {L : Addr} {m : Str → Option Value} {nw : List (Addr × Obj)} {Q : Value → Shared → Prop} {value slice : Expr} {l : List Nat} {t : Tok}
theorem subd_slice {a b : Option PySem.Expr} {p : Pos} {o i : Value} : subscripted (.Slice a b none p) false o i = operate [i, o] (getItem o i) := rfl
theorem subd_name {x : Str} {p : Pos} {o i : Value} : subscripted (.Name x p) false o i = operate [o, i] (getItem o i) := rfl
theorem subd_const {x : Const} {k : Nat} {p : Pos} {o i : Value} : subscripted (.Constant x k p) false o i = operate [o, i] (getItem o i) := rfl
theorem subd_bin {x y : PySem.Expr} {k : Operator} {p : Pos} {o i : Value} : subscripted (.BinOp x k y p) false o i = operate [o, i] (getItem o i) := rfl
theorem subd_un {x : PySem.Expr} {k : UnaryOp} {p : Pos} {o i : Value} : subscripted (.UnaryOp k x p) false o i = operate [o, i] (getItem o i) := rfl
theorem ltg_str {base : PySem.Expr} {x : Str} {t : Tok} {r : Value} : letTemporaryGo base (.str x t) r = pure () := by cases base <;> rfl
theorem kept : KeptH (fun h => Own g L h m nw) := fun _ _ F => F.push' _
theorem fits_sl (h : l.length ≤ 1000000) : (S l).length ≤ sizeLine := by rw [S_len, sizeLine_eq]; omega
theorem sl_ss {e1 e2 : Option PySem.Expr} {p : Pos} {i j : Int} {ui uj : Tok} (F : Own g L s.heap m nw) (hi : 0 ≤ i) (hj : 0 ≤ j) (hl : l.length ≤ 1000000)
    (h : ∀ h' t' k, Own g L h' m nw → Q (.str (S ((l.take j.toNat).drop i.toNat)) t') { s with heap := h', toks := k }) :
    wpAny (MP w) A (subscriptTail value (.Slice e1 e2 none p) (.str (S l) t) (.ref s.heap.objs.size)) Q E { s with heap := s.heap.push { cls := .type "slice", data := .fields #[.int i ui, .int j uj, .none] } } :=
  tail_of_ItemOn (SBH.sliceItem_ss kept F (fun h' t' k F' => by rw [slice_ss hi hj]; exact h h' t' k F') (fits_sl hl)) subd_slice (fun _ => ltg_str)
theorem sl_sn {e1 e2 : Option PySem.Expr} {p : Pos} {i : Int} {ui : Tok} (F : Own g L s.heap m nw) (hi : 0 ≤ i) (hl : l.length ≤ 1000000)
    (h : ∀ h' t' k, Own g L h' m nw → Q (.str (S (l.drop i.toNat)) t') { s with heap := h', toks := k }) :
    wpAny (MP w) A (subscriptTail value (.Slice e1 e2 none p) (.str (S l) t) (.ref s.heap.objs.size)) Q E { s with heap := s.heap.push { cls := .type "slice", data := .fields #[.int i ui, .none, .none] } } :=
  tail_of_ItemOn (SBH.sliceItem_sn kept F (fun h' t' k F' => by rw [slice_sn hi]; exact h h' t' k F') (fits_sl hl)) subd_slice (fun _ => ltg_str)
theorem sl_ns {e1 e2 : Option PySem.Expr} {p : Pos} {j : Int} {uj : Tok} (F : Own g L s.heap m nw) (hj : 0 ≤ j) (hl : l.length ≤ 1000000)
    (h : ∀ h' t' k, Own g L h' m nw → Q (.str (S (l.take j.toNat)) t') { s with heap := h', toks := k }) :
    wpAny (MP w) A (subscriptTail value (.Slice e1 e2 none p) (.str (S l) t) (.ref s.heap.objs.size)) Q E { s with heap := s.heap.push { cls := .type "slice", data := .fields #[.none, .int j uj, .none] } } :=
  tail_of_ItemOn (SBH.sliceItem_ns kept F (fun h' t' k F' => by rw [slice_ns hj]; exact h h' t' k F') (fits_sl hl)) subd_slice (fun _ => ltg_str)
theorem sl_neg {e1 e2 : Option PySem.Expr} {p : Pos} {j : Int} {uj : Tok} (F : Own g L s.heap m nw) (hj : j < 0) (hl : l.length ≤ 1000000)
    (h : ∀ h' t' k, Own g L h' m nw → Q (.str (S (l.take (l.length - (-j).toNat))) t') { s with heap := h', toks := k }) :
    wpAny (MP w) A (subscriptTail value (.Slice e1 e2 none p) (.str (S l) t) (.ref s.heap.objs.size)) Q E { s with heap := s.heap.push { cls := .type "slice", data := .fields #[.none, .int j uj, .none] } } :=
  tail_of_ItemOn (SBH.sliceItem_ns kept F (fun h' t' k F' => by rw [slice_nneg hj]; exact h h' t' k F') (fits_sl hl)) subd_slice (fun _ => ltg_str)
theorem sl_nn {e1 e2 : Option PySem.Expr} {p : Pos} (F : Own g L s.heap m nw) (hl : l.length ≤ 1000000)
    (h : ∀ h' t' k, Own g L h' m nw → Q (.str (S l) t') { s with heap := h', toks := k }) :
    wpAny (MP w) A (subscriptTail value (.Slice e1 e2 none p) (.str (S l) t) (.ref s.heap.objs.size)) Q E { s with heap := s.heap.push { cls := .type "slice", data := .fields #[.none, .none, .none] } } :=
  tail_of_ItemOn (SBH.sliceItem_nn kept F (fun h' t' k F' => by rw [slice_nn]; exact h h' t' k F') (fits_sl hl)) subd_slice (fun _ => ltg_str)
theorem it_S {i : Int} {u : Tok} (hi : 0 ≤ i) (h2 : i < l.length) (hl : l.length ≤ 1000000)
    (h : Q (.str (S [l.getD i.toNat 0]) s.toks) { s with toks := s.toks + 1 })
    (hs : subscripted slice false (.str (S l) t) (.int i u) = operate [.str (S l) t, .int i u] (getItem (.str (S l) t) (.int i u)) := by first | exact subd_name | exact subd_const | exact subd_bin | exact subd_un) :
    wpAny (MP w) A (subscriptTail value slice (.str (S l) t) (.int i u)) Q E s :=
  item_str (by simp only [fitsSsize]; simp; omega) (by rw [S_len]; omega) (by rw [S_len]; omega) (fun _ => by rw [item_S hi h2]; exact h) hs (fun _ => ltg_str)
theorem it_Sneg {i : Int} {u : Tok} (hi : i < 0) (h2 : -(l.length : Int) ≤ i) (hl : l.length ≤ 1000000)
    (h : Q (.str (S [l.getD (l.length - (-i).toNat) 0]) s.toks) { s with toks := s.toks + 1 })
    (hs : subscripted slice false (.str (S l) t) (.int i u) = operate [.str (S l) t, .int i u] (getItem (.str (S l) t) (.int i u)) := by first | exact subd_name | exact subd_const | exact subd_bin | exact subd_un) :
    wpAny (MP w) A (subscriptTail value slice (.str (S l) t) (.int i u)) Q E s :=
  item_str (by simp only [fitsSsize]; simp; omega) (by rw [S_len]; omega) (by rw [S_len]; omega) (fun _ => by rw [item_Sneg hi h2]; exact h) hs (fun _ => ltg_str)
end

/-- the first place at which y stands in x, from lo, within hi -/
def at? (x y : List Nat) (hi i : Nat) : Bool := decide (i + y.length ≤ hi) && ((x.drop i).take y.length == y)
def findL (x y : List Nat) (lo hi : Nat) : Option Nat := (List.range' lo (hi + 1 - lo)).find? (at? x y hi)
def intOf : Option Nat → Int
  | some i => (i : Int)
  | none => -1
theorem At_S (x y : List Nat) (hi i : Nat) : StrLaws.At (S x) (S y) hi i ↔ at? x y hi i = true := by
  unfold StrLaws.At at?
  rw [StrLaws.subAt_eq]
  simp only [S_len, S_cps, Bool.and_eq_true, decide_eq_true_eq, beq_iff_eq]
theorem occ1 (x y : List Nat) (lo hi : Nat) : (match occurrences (S x) (S y) lo hi 1 with | i :: _ => (i : Int) | [] => -1) = intOf (findL x y lo hi) := by
  rw [StrLaws.occ_eq]
  unfold findL
  rcases StrLaws.occ_first (S x) (S y) hi 1 (Nat.le_refl _) (List.range' lo (hi + 1 - lo)) lo (fun i hi' => (List.mem_range'_1.mp hi').1) with ⟨h0, hn⟩ | ⟨pre, a, post, e, h0, ha, hn⟩
  · rw [h0]
    have : (List.range' lo (hi + 1 - lo)).find? (at? x y hi) = none := List.find?_eq_none.mpr fun i hi' h => hn i hi' ((At_S x y hi i).mpr h)
    rw [this]; rfl
  · have h1 : (List.range' lo (hi + 1 - lo)).find? (at? x y hi) = some a := by
      rw [e, List.find?_append, List.find?_eq_none.mpr fun i hi' h => hn i hi' ((At_S x y hi i).mpr h)]
      simp [(At_S x y hi a).mp ha]
    rw [h1]
    generalize (forIn (List.range' lo (hi + 1 - lo)) ((#[] : Array Nat), lo) (StrLaws.occBody (S x) (S y) hi 1)).run.fst = arr at h0
    rcases arr with ⟨_ | ⟨b, r⟩⟩
    · simp at h0
    · simp at h0; subst h0; rfl

section
variable {w : World} {A : Around} {E : Value → Shared → Prop} {s : Shared} {Q : Value → Shared → Prop} {x y : List Nat} {t u v v' : Tok}
theorem find2 (h : Q (.int (intOf (findL x y 0 x.length)) s.toks) { s with toks := s.toks + 1 }) : wpAny (MP w) A (call (.builtin "str.find") [.str (S x) t, .str (S y) u]) Q E s := by
  refine SC.find ?_
  have e : Txt.find (S x) (S y) = intOf (findL x y 0 x.length) := by rw [← S_len x]; exact occ1 x y 0 (S x).length
  rw [e]; exact h
theorem find4_gives (x y : Str) (i j : Int) (t u v v' : Tok) (hi : 0 ≤ i) (hj : 0 ≤ j) : Gives («str.find» ⟨[.str x t, .str y u, .int i v, .int j v'], []⟩) (.int (match occurrences x y i.toNat (min j.toNat x.length) 1 with | k :: _ => (k : Int) | [] => -1)) := by
  have e1 : (max 0 (if i < 0 then i + x.length else i)).toNat = i.toNat := by rw [if_neg (by omega)]; omega
  have e2 : (max 0 (if j < 0 then j + x.length else j)).toNat = j.toNat := by rw [if_neg (by omega)]; omega
  show Gives (match occurrences x y (max 0 (if i < 0 then i + x.length else i)).toNat (min (max 0 (if j < 0 then j + x.length else j)).toNat x.length) 1 with | k :: _ => retInt k | [] => (do rule "str.find.not-found"; retInt (-1))) _
  rw [e1, e2]
  cases occurrences x y i.toNat (min j.toNat x.length) 1 with
  | nil => exact .rule (.of_eq rfl)
  | cons k _ => exact .of_eq rfl
theorem find4 {i j : Int} (hi : 0 ≤ i) (hj : 0 ≤ j) (h : Q (.int (intOf (findL x y i.toNat (min j.toNat x.length))) s.toks) { s with toks := s.toks + 1 }) :
    wpAny (MP w) A (call (.builtin "str.find") [.str (S x) t, .str (S y) u, .int i v, .int j v']) Q E s := by
  refine call_gives F.slot_str_find (typeIs_str _ _ _) F.entry_str_find (F.args_str_find_4 _ _ _ _) (find4_gives (S x) (S y) i j t u v v' hi hj) ?_
  rw [occ1, S_len]; exact h

def lastL (x y : List Nat) (lo hi : Nat) : Option Nat := (List.range' lo (hi + 1 - lo)).reverse.find? (at? x y hi)
theorem last1 (x y : List Nat) (lo hi : Nat) : (match lastOccurrence (S x) (S y) lo hi with | some i => (i : Int) | none => -1) = intOf (lastL x y lo hi) := by
  have h : ∀ (l : List Nat) (st : Option Nat), (forIn l st (StrLaws.lastBody (S x) (S y) hi)).run = (l.reverse.find? (at? x y hi)).or st := by
    intro l
    induction l with
    | nil => intro st; rfl
    | cons a l ih =>
      intro st
      rw [List.forIn_cons, List.reverse_cons, List.find?_append]
      by_cases hc : a + (S y).length ≤ hi ∧ subAt (S x) (S y) a = true
      · have h1 := (At_S x y hi a).mp hc
        have h2 : StrLaws.lastBody (S x) (S y) hi a st = pure (ForInStep.yield (some a)) := if_pos hc
        rw [h2]
        show (forIn l (some a) _ : Id (Option Nat)).run = _
        rw [ih]
        simp only [List.find?_cons, h1]
        cases l.reverse.find? (at? x y hi) <;> rfl
      · have h1 : at? x y hi a = false := by
          cases e : at? x y hi a with
          | false => rfl
          | true => exact absurd ((At_S x y hi a).mpr e) hc
        have h2 : StrLaws.lastBody (S x) (S y) hi a st = pure (ForInStep.yield st) := if_neg hc
        rw [h2]
        show (forIn l st _ : Id (Option Nat)).run = _
        rw [ih]
        simp only [List.find?_cons, h1, List.find?_nil, Option.or_none]
  have e : lastOccurrence (S x) (S y) lo hi = lastL x y lo hi := by
    rw [StrLaws.last_eq, h, Option.or_none]; rfl
  rw [e]
  cases lastL x y lo hi <;> rfl
theorem rfind4_gives (x y : Str) (i j : Int) (t u v v' : Tok) (hi : 0 ≤ i) (hj : 0 ≤ j) : Gives («str.rfind» ⟨[.str x t, .str y u, .int i v, .int j v'], []⟩) (.int (match lastOccurrence x y i.toNat (min j.toNat x.length) with | some k => (k : Int) | none => -1)) := by
  have e1 : (max 0 (if i < 0 then i + x.length else i)).toNat = i.toNat := by rw [if_neg (by omega)]; omega
  have e2 : (max 0 (if j < 0 then j + x.length else j)).toNat = j.toNat := by rw [if_neg (by omega)]; omega
  show Gives (match lastOccurrence x y (max 0 (if i < 0 then i + x.length else i)).toNat (min (max 0 (if j < 0 then j + x.length else j)).toNat x.length) with | some k => retInt k | none => (do rule "str.rfind.not-found"; retInt (-1))) _
  rw [e1, e2]
  cases lastOccurrence x y i.toNat (min j.toNat x.length) with
  | none => exact .rule (.of_eq rfl)
  | some k => exact .of_eq rfl
theorem rfind4 {i j : Int} (hi : 0 ≤ i) (hj : 0 ≤ j) (h : Q (.int (intOf (lastL x y i.toNat (min j.toNat x.length))) s.toks) { s with toks := s.toks + 1 }) :
    wpAny (MP w) A (call (.builtin "str.rfind") [.str (S x) t, .str (S y) u, .int i v, .int j v']) Q E s := by
  refine call_gives F.slot_str_rfind (typeIs_str _ _ _) F.entry_str_rfind (F.args_str_rfind_4 _ _ _ _) (rfind4_gives (S x) (S y) i j t u v v' hi hj) ?_
  rw [last1, S_len]; exact h
end
end Mine
end
section
open PySem PySem.W PyProof.Rows PySem.Calls PySem.Builtin PySem.Builtin.Str
set_option Elab.async false
set_option maxRecDepth 100000
set_option maxHeartbeats 8000000
namespace Mine
theorem L_nl : Str.ofString "\n" = S [10] := by decide +kernel
theorem L_colon : Str.ofString ":" = S [58] := by decide +kernel
theorem L_dot : Str.ofString "." = S [46] := by decide +kernel
theorem L_dots : Str.ofString "..." = S [46, 46, 46] := by decide +kernel
theorem L_abAB : Str.ofString "abAB" = S [97, 98, 65, 66] := by decide +kernel
theorem L_e : Str.ofString "" = S [] := by decide +kernel
theorem L_m : Str.ofString "m." = S [109, 46] := by decide +kernel
theorem L_mn : Str.ofString "m.n." = S [109, 46, 110, 46] := by decide +kernel
theorem L_dd : Str.ofString ".." = S [46, 46] := by decide +kernel
theorem L_cb : Str.ofString ": b.A" = S [58, 32, 98, 46, 65] := by decide +kernel
theorem L_nb : Str.ofString "\nb: A" = S [10, 98, 58, 32, 65] := by decide +kernel
section
variable {w : World} {A : Around} {E : Value → Shared → Prop} {s : Shared} {g : Heap} {L : Addr} {m : Str → Option Value} {nw : List (Addr × Obj)} {Q : Value → Shared → Prop} {x y : List Nat} {t u : Tok} {env : Env}
theorem cst {z : Str} {k : Nat} {pos : Pos} (e : z = S x) (h : Q (.str (S x) s.toks) { s with toks := s.toks + 1 }) : wpAny (MP w) A (eval (.Constant (.str z) k pos) env) Q E s := by
  subst e; exact Constant_str h
theorem nmGS {n : Str} {z : Str} {pos : Pos} (F : Own g L s.heap m nw) (X : Amb w g) (e : nsIn (hd.heap_39 w.params) mainGlobals n = some (some (.str z t))) (e' : z = S x) (h : Q (.str (S x) t) s)
    (hG : env.globals = mainGlobals := by rfl) (hk : env.scope.kind = .function := by rfl) (hx : env.kindOf n = some .globalImplicit := by rfl) (hd : (n == ("__debug__" : Str)) = false := by decide) :
    wpAny (MP w) A (eval (.Name n pos) env) Q E s := by subst e'; exact nmG F X e h hG hk hx hd
theorem eqS (h : Q (.bool (decide (x = y))) s) : wpAny (MP w) A (compareOp .Eq (.str (S x) t) (.str (S y) u)) Q E s :=
  PyProof.Rows.eq_str (by rw [S_beq]; exact h)
theorem neS (h : Q (.bool (!decide (x = y))) s) : wpAny (MP w) A (compareOp .NotEq (.str (S x) t) (.str (S y) u)) Q E s :=
  PyProof.Rows.ne_str (by rw [show (S x != S y) = !(S x == S y) from rfl, S_beq]; exact h)
theorem addS (hl : x.length + y.length ≤ 1000000) (h : ∀ t' tk, Q (.str (S (x ++ y)) t') { s with toks := tk }) : wpAny (MP w) A (binaryOp .Add (.str (S x) t) (.str (S y) u)) Q E s :=
  PyProof.Rows.add_str (fun t' tk => by rw [S_app]; exact h t' tk) (by rw [S_len, S_len, sizeLine_eq]; omega)
theorem lenS (hl : x.length ≤ 1000000) (h : Q (.int x.length (s.toks + 1)) { s with toks := s.toks + 1 + 1 }) : wpAny (MP w) A (call (.builtin "len") [.str (S x) t]) Q E s :=
  PyProof.Rows.len_str (by rw [S_len]; omega) (by rw [S_len]; exact h)
theorem trS {Q : Bool → Shared → Prop} (hl : x.length ≤ 1000000) (h : Q (decide (0 < x.length)) { s with toks := s.toks + 1 + 1 }) : wpAny (MP w) A (truthy (.str (S x) t)) Q E s :=
  P.truthy_str (by rw [S_len]; omega) (by
    rw [S_len, show ((x.length : Int) != 0) = decide (0 < x.length) by
      cases x.length with
      | zero => rfl
      | succ n => simp; omega]
    exact h)
theorem inS (h : Q (.bool (findL y x 0 y.length).isSome) s) : wpAny (MP w) A (compareOp .In (.str (S x) t) (.str (S y) u)) Q E s := by
  refine PyProof.Rows.in_str ?_
  have := occ1 y x 0 y.length
  rw [S_len]
  have e : (!(occurrences (S y) (S x) 0 y.length 1).isEmpty) = (findL y x 0 y.length).isSome := by
    cases h1 : occurrences (S y) (S x) 0 y.length 1 with
    | nil =>
      rw [h1] at this
      cases h2 : findL y x 0 y.length with
      | none => rfl
      | some i => rw [h2] at this; simp only [intOf] at this; omega
    | cons a r =>
      rw [h1] at this
      cases h2 : findL y x 0 y.length with
      | none => rw [h2] at this; simp only [intOf] at this; omega
      | some i => rfl
  rw [e]; exact h
theorem ninS (h : Q (.bool (!(findL y x 0 y.length).isSome)) s) : wpAny (MP w) A (compareOp .NotIn (.str (S x) t) (.str (S y) u)) Q E s := by
  refine PyProof.Rows.notIn_str ?_
  have := occ1 y x 0 y.length
  rw [S_len]
  have e : (!(occurrences (S y) (S x) 0 y.length 1).isEmpty) = (findL y x 0 y.length).isSome := by
    cases h1 : occurrences (S y) (S x) 0 y.length 1 with
    | nil =>
      rw [h1] at this
      cases h2 : findL y x 0 y.length with
      | none => rfl
      | some i => rw [h2] at this; simp only [intOf] at this; omega
    | cons a r =>
      rw [h1] at this
      cases h2 : findL y x 0 y.length with
      | none => rw [h2] at this; simp only [intOf] at this; omega
      | some i => rfl
  rw [e]; exact h
theorem starts_S : Txt.startswith (S x) (S y) = decide (y <+: x) := by
  unfold Txt.startswith
  rw [StrLaws.subAt_eq]
  simp only [S_len, S_cps, List.drop_zero, Nat.zero_add]
  by_cases h : y <+: x
  · have h1 := List.prefix_iff_eq_take.mp h
    have h2 := h.length_le
    simp [h, h2, ← h1]
  · have : ¬ x.take y.length = y := fun e => h (by rw [List.prefix_iff_eq_take]; exact e.symm)
    simp [h, this]
theorem ends_S : Txt.endswith (S x) (S y) = decide (y <:+ x) := by
  unfold Txt.endswith
  rw [StrLaws.subAt_eq]
  simp only [S_len, S_cps, Nat.zero_add]
  by_cases h : y <:+ x
  · have h1 := List.suffix_iff_eq_drop.mp h
    have h2 := h.length_le
    have h3 : (x.drop (x.length - y.length)).take y.length = y := by rw [← h1]; exact List.take_length
    simp [h, h2, h3]
  · by_cases h2 : y.length ≤ x.length
    · have : ¬ (x.drop (x.length - y.length)).take y.length = y := fun e => h (by
        rw [List.suffix_iff_eq_drop]
        rw [List.take_of_length_le (by rw [List.length_drop]; omega)] at e
        exact e.symm)
      simp [h, this]
    · simp [h, h2]
theorem startsS (h : Q (.bool (decide (y <+: x))) s) : wpAny (MP w) A (call (.builtin "str.startswith") [.str (S x) t, .str (S y) u]) Q E s :=
  SC.startswith (by rw [starts_S]; exact h)
theorem endsS (h : Q (.bool (decide (y <:+ x))) s) : wpAny (MP w) A (call (.builtin "str.endswith") [.str (S x) t, .str (S y) u]) Q E s :=
  SC.endswith (by rw [ends_S]; exact h)
end
end Mine
end
section
open PySem PySem.W PyProof.Rows PySem.Calls PySem.Builtin PySem.Builtin.Str
set_option Elab.async false
set_option maxRecDepth 100000
set_option maxHeartbeats 8000000
namespace Mine
abbrev lstN (vs : List Value) (n : Nat) : Obj := { cls := .type "list", data := .seq vs.toArray n }
def IsLst (o : Obj) (vs : List Value) : Prop := o.cls = .type "list" ∧ ∃ n, o.data = .seq vs.toArray n
theorem isLst_N (vs : List Value) (n : Nat) : IsLst (lstN vs n) vs := ⟨rfl, n, rfl⟩
section
variable {w : World} {A : Around} {E : Value → Shared → Prop} {s : Shared} {g h : Heap} {L : Addr} {m : Str → Option Value} {nw : List (Addr × Obj)} {Q : Value → Shared → Prop} {a : Addr} {vs : List Value} {n : Nat} {o : Obj}
theorem isl_B {items : Array Value} (hb : g.IsList a items) (F : Own g L h m nw) : h.IsList a items := hb.at fun o e => F.keep _ o e
theorem isl_0 (F : Own g L h m ((a, lstN vs n) :: nw)) : h.IsList a vs.toArray := ⟨_, (F.nws _ (.head _)).1, rfl, _, rfl⟩
theorem isl_1 {p : Addr × Obj} (F : Own g L h m (p :: (a, lstN vs n) :: nw)) : h.IsList a vs.toArray := ⟨_, (F.nws _ (.tail _ (.head _))).1, rfl, _, rfl⟩
theorem isl_o (F : Own g L h m nw) (hm : (a, o) ∈ nw) (ho : IsLst o vs) : h.IsList a vs.toArray := ⟨_, (F.nws _ hm).1, ho.1, ho.2⟩

theorem isl_o1 (F : Own g L h m ((a, o) :: nw)) (ho : IsLst o vs) : h.IsList a vs.toArray := ⟨_, (F.nws _ (.head _)).1, ho.1, ho.2⟩

theorem Own.upd {h' : Heap} {o' : Obj} (F : Own g L h m ((a, o) :: nw)) (hne : ∀ p ∈ nw, p.1 ≠ a) (hs : Heap.SameBut a h h') (ho : h'.get? a = some o') : Own g L h' m ((a, o') :: nw) := by
  have h0 := F.nws _ (.head _)
  refine ⟨F.ns.sameBut hs (Ne.symm h0.2.1), fun b ob e => (hs.2 b (fun q => by rw [q, h0.2.2] at e; cases e)).trans (F.keep b ob e), F.gL, fun p hp => ?_⟩
  rcases List.mem_cons.mp hp with rfl | hp
  · exact ⟨ho, h0.2⟩
  · have := F.nws p (.tail _ hp)
    exact ⟨(hs.2 p.1 (hne p hp)).trans this.1, this.2⟩

theorem itemO {value slice : PySem.Expr} {items : Array Value} {k : Int} {u : Tok} {x : Value} (hl : s.heap.IsList a items) (h0 : 0 ≤ k) (hfit : k < 2 ^ 63) (hx : items[k.toNat]? = some x) (h : Q x s)
    (hs : subscripted slice false (.ref a) (.int k u) = operate [.ref a, .int k u] (getItem (.ref a) (.int k u)) := by first | exact subd_name | exact subd_const | exact subd_bin | exact subd_un) :
    wpAny (MP w) A (subscriptTail value slice (.ref a) (.int k u)) Q E s :=
  tail_any hl.typeIs slot_list_getitem.lookup (wpAny_getItem_list hl h0 hfit hx h) hs
theorem itemOneg {value slice : PySem.Expr} {items : Array Value} {k : Int} {u : Tok} {x : Value} (hl : s.heap.IsList a items) (h0 : k < 0) (h1 : -(items.size : Int) ≤ k) (hfit : -(2 ^ 63) ≤ k) (hx : items[(k + items.size).toNat]? = some x) (h : Q x s)
    (hs : subscripted slice false (.ref a) (.int k u) = operate [.ref a, .int k u] (getItem (.ref a) (.int k u)) := by first | exact subd_name | exact subd_const | exact subd_bin | exact subd_un) :
    wpAny (MP w) A (subscriptTail value slice (.ref a) (.int k u)) Q E s :=
  tail_any hl.typeIs slot_list_getitem.lookup (wpAny_getItem_list_neg hl h0 h1 hfit hx h) hs
theorem lenO {items : Array Value} (hl : s.heap.IsList a items) (hfit : (items.size : Int) < 2 ^ 63) (h : Q (.int items.size (s.toks + 1)) { s with toks := s.toks + 1 + 1 }) : wpAny (MP w) A (call (.builtin "len") [.ref a]) Q E s :=
  len_list hl hfit h
theorem appendO {v : Value} (F : Own g L s.heap m ((a, lstN vs n) :: nw)) (hne : ∀ p ∈ nw, p.1 ≠ a) (hsz : vs.length ≤ 1000000) (h : ∀ h' n', Own g L h' m ((a, lstN (vs ++ [v]) n') :: nw) → Q .none { s with heap := h' }) :
    wpAny (MP w) A (call (.builtin "list.append") [.ref a, v]) Q E s := by
  refine append_at (F.nws _ (.head _)).1 (fun h' hs ho => h h' (n + 1) (F.upd hne hs ?_)) (by rw [List.size_toArray, sizeLine_eq]; omega)
  rw [ho]; simp
theorem methodO {pl : Sem Bool} {Q : Value × List Value → Shared → Prop} (F : Own g L s.heap m nw) (hm : (a, lstN vs n) ∈ nw) (h : Q (.builtin "list.append", [.ref a]) s) :
    wpAny (MP w) A (getMethod (.ref a) "append" pl) Q E s := Calls.getMethod_list_append (F.nws _ hm).1 rfl rfl h
theorem setO {k : Int} {t : Tok} {v : Value} {Q : Unit → Shared → Prop} (F : Own g L s.heap m ((a, o) :: nw)) (hne : ∀ p ∈ nw, p.1 ≠ a) (ho : IsLst o vs) (h0 : 0 ≤ k) (hfit : k < 2 ^ 63) (hn : k < vs.length)
    (h : ∀ h' o', IsLst o' (vs.set k.toNat v) → Own g L h' m ((a, o') :: nw) → Q () { s with heap := h' }) :
    wpAny (MP w) A (setItem (.ref a) (.int k t) v) Q E s := by
  refine wpAny_setItem_list (isl_o F (.head _) ho) h0 hfit (by simpa using hn) fun h' hl hs => ?_
  obtain ⟨o', e, c, n', d⟩ := hl
  exact h h' o' ⟨c, n', by rw [d]; simp⟩ (F.upd hne hs e)
theorem delO {k : Int} {t : Tok} {j : Nat} {Q : Unit → Shared → Prop} (F : Own g L s.heap m ((a, lstN vs n) :: nw)) (hne : ∀ p ∈ nw, p.1 ≠ a) (hfit : Builtin.List.listFitsIndex k = true) (hk : seqIndex? k vs.length = some j)
    (hsz : vs.length ≤ 1000000) (h : ∀ h' n', Own g L h' m ((a, lstN (vs.eraseIdx j) n') :: nw) → Q () { s with heap := h' }) :
    wpAny (MP w) A (delItem (.ref a) (.int k t)) Q E s := by
  refine wpAny_delItem_plain (items := vs.toArray) (k := j) ⟨n, (F.nws _ (.head _)).1⟩ hfit (by simpa using hk) (fun h' hl hs => ?_) (by rw [List.size_toArray, sizeLine_eq]; omega)
  obtain ⟨n', e⟩ := hl
  refine h h' n' (F.upd hne hs ?_)
  rw [e]
  have : vs.toArray.eraseIdxIfInBounds j = (vs.eraseIdx j).toArray := by
    by_cases hj : j < vs.length
    · simp [Array.eraseIdxIfInBounds, hj]
    · simp [Array.eraseIdxIfInBounds, hj]
      exact (List.eraseIdx_of_length_le (by omega)).symm
  rw [this]
theorem del_sub {o i : PySem.Expr} {pos : Pos} {env : Env} {Q : Unit → Shared → Prop}
    (h : wpAny (MP w) A (eval o env) (fun ov s₁ => wpAny (MP w) A (eval i env) (fun iv s₂ => wpAny (MP w) A (delItem ov iv) (fun _ s₃ => wpAny (MP w) A (release [ov, iv] []) Q E s₃) E s₂) E s₁) E s) :
    wpAny (MP w) A (delete (.Subscript o i pos) env) Q E s := by
  rw [arm_delete_Subscript]
  refine wpAny_bind (wpAny_mono h (fun ov s₁ h₁ => ?_) fun _ _ e => e)
  refine wpAny_bind (wpAny_holding (wpAny_mono h₁ (fun iv s₂ h₂ => ?_) fun _ _ e => e))
  refine wpAny_bind (wpAny_standAt ?_)
  exact wpAny_bind (wpAny_holding (wpAny_mono h₂ (fun _ s₃ h₃ => h₃) fun _ _ e => e))

/-- a text cut by another -/
def SplitsTo (x y : List Nat) (ws : List (List Nat)) : Prop :=
  (decide ((S x).length < (S y).length) || decide (strKind (S x) < strKind (S y))) = false ∧ (occurrences (S x) (S y) 0 (S x).length ((S x).length + 1)).isEmpty = false ∧
  partsBetween (S x) (occurrences (S x) (S y) 0 (S x).length ((S x).length + 1)) (S y).length = ws.map S
theorem strsFrom_map (ws : List (List Nat)) : ∀ tk : Nat, ∃ ts : List Tok, ts.length = ws.length ∧ strsFrom tk (ws.map S) = List.zipWith (fun x t => Value.str (S x) t) ws ts := by
  induction ws with
  | nil => intro tk; exact ⟨[], rfl, rfl⟩
  | cons x r ih =>
    intro tk
    obtain ⟨ts, h1, h2⟩ := ih (tk + 1)
    exact ⟨tk :: ts, by simp [h1], by simp [strsFrom, h2]⟩
theorem splitO {x y : List Nat} {t u : Tok} {ws : List (List Nat)} (O : Own g L s.heap m nw) (hx : x.length ≤ 1000) (hy : 0 < y.length) (hp : SplitsTo x y ws) (hw : ws.length ≤ 1000)
    (h : ∀ b h' tk, (∀ p ∈ nw, p.1 < b) → (∃ ts : List Tok, ts.length = ws.length ∧ Own g L h' m ((b, lstN (List.zipWith (fun x t => Value.str (S x) t) ws ts) 0) :: nw)) → Q (.ref b) { s with heap := h', toks := tk }) :
    wpAny (MP w) A (call (.builtin "str.split") [.str (S x) t, .str (S y) u]) Q E s := by
  obtain ⟨h1, h2, h3⟩ := hp
  refine call_meets F.slot_str_split (typeIs_str _ _ _) F.entry_str_split (F.args_str_split_2 _ _) (meets_str_split_sep (S x) (S y) t u h1 (by rw [S_len]; cases hy' : y.length with | zero => omega | succ n => rfl) h2 (by rw [S_len, sizeLine_eq]; omega) (by rw [h3, List.length_map, sizeLine_eq]; omega)) ?_
  rw [h3]
  obtain ⟨ts, e1, e2⟩ := strsFrom_map ws s.toks
  rw [e2]
  exact h _ _ _ O.fresh ⟨ts, e1, O.push _⟩

theorem splitO2 {x y a1 a2 : List Nat} {t u : Tok} (O : Own g L s.heap m nw) (hx : x.length ≤ 1000) (hy : 0 < y.length) (hp : SplitsTo x y [a1, a2])
    (h : ∀ b h' tk t1 t2, (∀ p ∈ nw, p.1 < b) → Own g L h' m ((b, lstN [.str (S a1) t1, .str (S a2) t2] 0) :: nw) → Q (.ref b) { s with heap := h', toks := tk }) :
    wpAny (MP w) A (call (.builtin "str.split") [.str (S x) t, .str (S y) u]) Q E s := by
  refine splitO O hx hy hp (by simp only [List.length_cons, List.length_nil]; omega) fun b h' tk hb ⟨ts, e, O'⟩ => ?_
  obtain ⟨t1, ts, rfl⟩ := List.exists_cons_of_length_eq_add_one e
  obtain ⟨t2, ts, rfl⟩ := List.exists_cons_of_length_eq_add_one (Nat.succ.inj e)
  exact h b h' tk t1 t2 hb O'
theorem splitO3 {x y a1 a2 a3 : List Nat} {t u : Tok} (O : Own g L s.heap m nw) (hx : x.length ≤ 1000) (hy : 0 < y.length) (hp : SplitsTo x y [a1, a2, a3])
    (h : ∀ b h' tk t1 t2 t3, (∀ p ∈ nw, p.1 < b) → Own g L h' m ((b, lstN [.str (S a1) t1, .str (S a2) t2, .str (S a3) t3] 0) :: nw) → Q (.ref b) { s with heap := h', toks := tk }) :
    wpAny (MP w) A (call (.builtin "str.split") [.str (S x) t, .str (S y) u]) Q E s := by
  refine splitO O hx hy hp (by simp only [List.length_cons, List.length_nil]; omega) fun b h' tk hb ⟨ts, e, O'⟩ => ?_
  obtain ⟨t1, ts, rfl⟩ := List.exists_cons_of_length_eq_add_one e
  obtain ⟨t2, ts, rfl⟩ := List.exists_cons_of_length_eq_add_one (Nat.succ.inj e)
  obtain ⟨t3, ts, rfl⟩ := List.exists_cons_of_length_eq_add_one (Nat.succ.inj (Nat.succ.inj e))
  exact h b h' tk t1 t2 t3 hb O'
theorem splitO4 {x y a1 a2 a3 a4 : List Nat} {t u : Tok} (O : Own g L s.heap m nw) (hx : x.length ≤ 1000) (hy : 0 < y.length) (hp : SplitsTo x y [a1, a2, a3, a4])
    (h : ∀ b h' tk t1 t2 t3 t4, (∀ p ∈ nw, p.1 < b) → Own g L h' m ((b, lstN [.str (S a1) t1, .str (S a2) t2, .str (S a3) t3, .str (S a4) t4] 0) :: nw) → Q (.ref b) { s with heap := h', toks := tk }) :
    wpAny (MP w) A (call (.builtin "str.split") [.str (S x) t, .str (S y) u]) Q E s := by
  refine splitO O hx hy hp (by simp only [List.length_cons, List.length_nil]; omega) fun b h' tk hb ⟨ts, e, O'⟩ => ?_
  obtain ⟨t1, ts, rfl⟩ := List.exists_cons_of_length_eq_add_one e
  obtain ⟨t2, ts, rfl⟩ := List.exists_cons_of_length_eq_add_one (Nat.succ.inj e)
  obtain ⟨t3, ts, rfl⟩ := List.exists_cons_of_length_eq_add_one (Nat.succ.inj (Nat.succ.inj e))
  obtain ⟨t4, ts, rfl⟩ := List.exists_cons_of_length_eq_add_one (Nat.succ.inj (Nat.succ.inj (Nat.succ.inj e)))
  exact h b h' tk t1 t2 t3 t4 hb O'
theorem iteP {c : Prop} [Decidable c] {a b : Prop} (hc : c) (h : a) : if c then a else b := by rw [if_pos hc]; exact h
theorem iteN {c : Prop} [Decidable c] {a b : Prop} (hc : ¬ c) (h : b) : if c then a else b := by rw [if_neg hc]; exact h

theorem delO0 {v : Value} {t : Tok} {Q : Unit → Shared → Prop} (F : Own g L s.heap m ((a, lstN (v :: vs) n) :: nw)) (hne : ∀ p ∈ nw, p.1 ≠ a) (hsz : vs.length ≤ 1000)
    (h : ∀ h' n', Own g L h' m ((a, lstN vs n') :: nw) → Q () { s with heap := h' }) : wpAny (MP w) A (delItem (.ref a) (.int 0 t)) Q E s :=
  delO (j := 0) F hne (by decide) (by simp [seqIndex?]) (by rw [List.length_cons]; omega) h
theorem delOl {t : Tok} {Q : Unit → Shared → Prop} (F : Own g L s.heap m ((a, lstN vs n) :: nw)) (hne : ∀ p ∈ nw, p.1 ≠ a) (hsz : vs.length ≤ 1000) (h0 : 0 < vs.length)
    (h : ∀ h' n', Own g L h' m ((a, lstN vs.dropLast n') :: nw) → Q () { s with heap := h' }) : wpAny (MP w) A (delItem (.ref a) (.int (-1) t)) Q E s := by
  refine delO (j := vs.length - 1) F hne (by decide) ?_ (by omega) fun h' n' F' => h h' n' (by rw [List.eraseIdx_eq_dropLast (by omega)] at F'; exact F')
  unfold seqIndex?
  have h1 : (0 : Int) ≤ -1 + vs.length := by omega
  have h2 : (-1 + vs.length : Int) < vs.length := by omega
  have h3 : (-1 + vs.length : Int).toNat = vs.length - 1 := by omega
  have h4 : (if (-1 : Int) < 0 then (-1 : Int) + vs.length else -1) = -1 + vs.length := if_pos (by decide)
  simp only [h4]
  rw [if_pos (by simp only [Bool.and_eq_true, decide_eq_true_eq]; exact ⟨h1, h2⟩), h3]
theorem itemOl {value slice : PySem.Expr} {u : Tok} {v : Value} (hl : s.heap.IsList a vs.toArray) (hsz : vs.length ≤ 1000) (hv : vs.getLast? = some v) (h : Q v s)
    (hs : subscripted slice false (.ref a) (.int (-1) u) = operate [.ref a, .int (-1) u] (getItem (.ref a) (.int (-1) u)) := by first | exact subd_name | exact subd_const | exact subd_bin | exact subd_un) :
    wpAny (MP w) A (subscriptTail value slice (.ref a) (.int (-1) u)) Q E s := by
  have h0 : 0 < vs.length := by
    cases vs with
    | nil => cases hv
    | cons _ _ => exact Nat.succ_pos _
  refine itemOneg hl (by decide) (by rw [List.size_toArray]; omega) (by decide) ?_ h hs
  rw [List.getLast?_eq_getElem?] at hv
  rw [List.size_toArray, show (-1 + (vs.length : Int)).toNat = vs.length - 1 by omega]
  simpa using hv
theorem itemO0 {value slice : PySem.Expr} {u : Tok} {v : Value} (hl : s.heap.IsList a (v :: vs).toArray) (h : Q v s)
    (hs : subscripted slice false (.ref a) (.int 0 u) = operate [.ref a, .int 0 u] (getItem (.ref a) (.int 0 u)) := by first | exact subd_name | exact subd_const | exact subd_bin | exact subd_un) :
    wpAny (MP w) A (subscriptTail value slice (.ref a) (.int 0 u)) Q E s :=
  itemO hl (by decide) (by decide) (by simp) h hs

theorem gl1 {a : Value} : [a].getLast? = some a := rfl
theorem gl2 {a b : Value} : [a, b].getLast? = some b := rfl
theorem gl3 {a b c : Value} : [a, b, c].getLast? = some c := rfl
theorem gl4 {a b c d : Value} : [a, b, c, d].getLast? = some d := rfl
end
end Mine
end
section
open PySem PySem.W PyProof.Rows PySem.Calls PySem.Builtin PySem.Builtin.Str
set_option Elab.async false
set_option maxRecDepth 100000
set_option maxHeartbeats 8000000
namespace Mine
section
variable {s : Shared} {g h' : Heap} {L : Addr} {m : Str → Option Value} {nw : List (Addr × Obj)} {Q : Value → Shared → Prop} {tk : Nat}
theorem retB {b r : Bool} (hQ : ∀ h' tk, Stay g h' → Q (.bool r) { s with heap := h', toks := tk }) (O : Own g L h' m nw) (e : b = r) : Q (.bool b) { s with heap := h', toks := tk } := by
  subst e; exact hQ _ _ O.keep
theorem retS {x y : List Nat} {t : Tok} (hQ : ∀ t h' tk, Stay g h' → Q (.str (S y) t) { s with heap := h', toks := tk }) (O : Own g L h' m nw) (e : x = y) : Q (.str (S x) t) { s with heap := h', toks := tk } := by
  subst e; exact hQ _ _ _ O.keep
theorem retI {x y : Int} {t : Tok} (hQ : ∀ t h' tk, Stay g h' → Q (.int y t) { s with heap := h', toks := tk }) (O : Own g L h' m nw) (e : x = y) : Q (.int x t) { s with heap := h', toks := tk } := by
  subst e; exact hQ _ _ _ O.keep
end

theorem for_listL {w : World} {A : Around} {s : Shared} {env : Env} {g : Heap} {L : Addr} {m : Str → Option Value} {nw : List (Addr × Obj)} {x : Str} {px : Pos} {body : List Stmt} {Q : Flow → Shared → Prop} {l : Addr} {items : List Value}
    (J : Nat → (Str → Option Value) → List (Addr × Obj) → Prop)
    (hh : A.handled = none) (F : Own g L s.heap m nw) (hl : g.IsList l items.toArray)
    (h0 : J 0 m nw) (hadr : ∀ i m' nw', J i m' nw' → nw'.map (·.1) = nw.map (·.1))
    (turn : ∀ i v m₁ nw₁ g₁ h tk, items[i]? = some v → J i m₁ nw₁ → Stay g g₁ → Own g₁ L h (upd m₁ x v) nw₁ →
      wpAny (MP w) A (execs body env) (TurnEnd g₁ L (J (i + 1)) s Q) NoE { s with heap := h, toks := tk })
    (done : ∀ m₁ nw₁ h tk, J items.length m₁ nw₁ → Own g L h m₁ nw₁ → Q .next { s with heap := h, toks := tk })
    (hL : env.locals = L := by rfl) (hk : env.scope.kind = .function := by rfl) (hx : env.kindOf x = some .local := by rfl) :
    ForHere w A env x px body Q (.ref l) s :=
  for_list J hh F hl h0 hadr (fun i v m₁ nw₁ g₁ h tk hv => turn i v m₁ nw₁ g₁ h tk (by simpa using hv)) (fun m₁ nw₁ h tk hJ => done m₁ nw₁ h tk (by simpa using hJ)) hL hk hx

def stripF (x : List Nat) : List Nat :=
  let i1 := intOf (findL x [10] 0 x.length)
  let e1 : Int := if 0 ≤ i1 then i1 else x.length
  let i2 := intOf (findL x [58] 0 (min e1.toNat x.length))
  let e2 : Int := if 0 ≤ i2 then i2 else e1
  let i3 := intOf (lastL x [46] 0 (min e2.toNat x.length))
  let st : Int := if 0 ≤ i3 then i3 + 1 else 0
  (x.take e2.toNat).drop st.toNat

def ellGo (y : List Nat) (e : Nat) : List (List Nat) → Nat → Option Nat
  | [], sp => some sp
  | w :: ws, sp => match findL y w sp (min e y.length) with
    | none => none
    | some i => ellGo y e ws (i + w.length)
def ellF (front back : Bool) (p q y : List Nat) : Bool :=
  (!front || decide (p <+: y)) && (!back || decide (q <:+ y)) &&
  decide ((if front then p.length else 0) + (if back then q.length else 0) ≤ y.length) &&
  (ellGo y (y.length - (if back then q.length else 0)) ((if front then [] else [[], p]) ++ (if back then [] else [q, []])) (if front then p.length else 0)).isSome
end Mine
end
section
open PySem PySem.W PyProof.Rows PySem.Calls PySem.Builtin PySem.Builtin.Str
set_option Elab.async false
set_option maxRecDepth 100000
set_option maxHeartbeats 8000000
namespace Mine
section
variable {w : World} {A : Around} {E : Value → Shared → Prop} {s : Shared} {g h : Heap} {L : Addr} {m : Str → Option Value} {nw : List (Addr × Obj)} {Q : Value → Shared → Prop}
theorem rng1O {n : Int} {t : Tok} (O : Own g L s.heap m nw) (h : ∀ r h' tk t u v, IsRange h' r 0 n 1 t u v → Own g L h' m nw → Q (.ref r) { s with heap := h', toks := tk }) :
    wpAny (MP w) A (call (.type "range") [.int n t]) Q E s :=
  call_range_1 (h _ _ _ _ _ _ (IsRange.new ..) (O.push' _))
theorem rng2O {a n : Int} {t u : Tok} (O : Own g L s.heap m nw) (h : ∀ r h' tk t u v, IsRange h' r a n 1 t u v → Own g L h' m nw → Q (.ref r) { s with heap := h', toks := tk }) :
    wpAny (MP w) A (call (.type "range") [.int a t, .int n u]) Q E s :=
  call_range_2 (h _ _ _ _ _ _ (IsRange.new ..) (O.push' _))
theorem rng3O {a n c : Int} {t u v : Tok} (O : Own g L s.heap m nw) (hc : c ≠ 0) (hs : c.natAbs < 1073741824) (h : ∀ r h' tk t u v, IsRange h' r a n c t u v → Own g L h' m nw → Q (.ref r) { s with heap := h', toks := tk }) :
    wpAny (MP w) A (call (.type "range") [.int a t, .int n u, .int c v]) Q E s :=
  call_range_3 hc (h _ _ _ _ _ _ (IsRange.new ..) (O.push' _)) (Or.inl (PyProof.noPylong_small hs))
theorem ints_get : ∀ {vs : List Value} {ns : List Int}, vs.length = ns.length → (∀ (i : Nat) (n : Int), ns[i]? = some n → ∃ t, vs[i]? = some (.int n t)) → IntsAre vs ns
  | [], [], _, _ => .nil
  | [], _ :: _, h, _ => by simp at h
  | _ :: _, [], h, _ => by simp at h
  | v :: vs, n :: ns, h, hg => by
    obtain ⟨t, e⟩ := hg 0 n rfl
    simp at e; subst e
    exact .cons n t (ints_get (by simpa using h) fun i k hk => by
      obtain ⟨t, e⟩ := hg (i + 1) k (by simpa using hk)
      exact ⟨t, by simpa using e⟩)
theorem ints_of {acc : Array Value} {n : Nat} {a c : Int} (h : ItemsOf (fun i v => ∃ t, v = .int (a + i * c) t) acc n) : IntsAre acc.toList (rangeInts a c n) := by
  obtain ⟨h1, h2⟩ := h
  refine ints_get (by rw [rangeInts_length, Array.length_toList, h1]) fun i k hk => ?_
  have hi : i < n := by
    have := (List.getElem?_eq_some_iff.mp hk).1
    rwa [rangeInts_length] at this
  rw [rangeInts_get hi] at hk
  obtain ⟨t, e⟩ := h2 i acc[i] (by simp [h1, hi])
  refine ⟨t, ?_⟩
  rw [Array.getElem?_toList]
  simp only [h1, hi, Array.getElem?_eq_getElem]
  rw [e, Option.some.inj hk]
theorem ints_set : ∀ {vs : List Value} {ns : List Int}, IntsAre vs ns → ∀ (k : Nat) (n : Int) (t : Tok), IntsAre (vs.set k (.int n t)) (ns.set k n)
  | _, _, .nil, _, _, _ => .nil
  | _, _, .cons _ _ h, 0, n, t => .cons n t h
  | _, _, .cons a u h, k + 1, n, t => .cons a u (ints_set h k n t)
theorem listRangeO {r : Addr} {a b c : Int} {t u v : Tok} {n : Nat} (O : Own g L s.heap m nw) (hh : A.handled = none) (hr : IsRange s.heap r a b c t u v) (hs : Builtin.Range.small a b c = true) (hn : Builtin.Range.rangeSize a b c = n) (hlen : n ≤ 1000)
    (h : ∀ l vs k h' tk, (∀ p ∈ nw, p.1 < l) → IntsAre vs (rangeInts a c n) → Own g L h' m ((l, lstN vs k) :: nw) → Q (.ref l) { s with heap := h', toks := tk }) :
    wpAny (MP w) A (call (.type "list") [.ref r]) Q E s := by
  refine call_list_range hh hr hs hn (by omega) fun h' tk acc' c' hk ho hi => ?_
  refine h s.heap.objs.size acc'.toList c' h' tk O.fresh (ints_of hi) ⟨(O.stay hk).ns, (O.stay hk).keep, O.gL, fun p hp => ?_⟩
  rcases List.mem_cons.mp hp with rfl | hp
  · refine ⟨by rw [ho], Nat.ne_of_gt O.ns.lt, ?_⟩
    cases e : g.get? s.heap.objs.size with
    | none => rfl
    | some o' => exact absurd (Heap.lt_size (O.keep _ _ e)) (Nat.lt_irrefl _)
  · exact (O.stay hk).nws p hp
theorem minO {a b : Int} {t u : Tok} (O : Own g L s.heap m nw) (hh : A.handled = none) (h : ∀ t' h' tk, Own g L h' m nw → Q (.int (min a b) t') { s with heap := h', toks := tk }) :
    wpAny (MP w) A (call (.builtin "min") [.int a t, .int b u]) Q E s := by
  refine min_two_ints hh fun h' tk hk => ?_
  by_cases hc : b < a
  · rw [if_pos hc]; have := h u h' tk (O.stay hk); rwa [show min a b = b by omega] at this
  · rw [if_neg hc]; have := h t h' tk (O.stay hk); rwa [show min a b = a by omega] at this
theorem small_two {a b : Int} (ha : 0 ≤ a) (ha' : a < 1000) (hb : 0 ≤ b) (hb' : b < 1000) : Builtin.Range.small a b 2 = true := by
  unfold Builtin.Range.small Builtin.Range.rangeSize
  simp only [Builtin.Range.rangeFitsLong, Bool.and_eq_true, Bool.or_eq_true, decide_eq_true_eq, beq_iff_eq, show (2 : Int) > 0 by decide, if_true]
  split <;> omega
end
end Mine
namespace Mine
def WhileHere (w : World) (A : Around) (env : Env) (test : PySem.Expr) (body : List Stmt) (pos : Pos) (Q : Flow → Shared → Prop) (s : Shared) : Prop := wpAny (MP w) A (exec (.While test body [] pos) env) Q NoE s
theorem while_here {w : World} {A : Around} {env : Env} {test : PySem.Expr} {body : List Stmt} {pos : Pos} {Q : Flow → Shared → Prop} {s : Shared} (h : WhileHere w A env test body pos Q s) : wpAny (MP w) A (exec (.While test body [] pos) env) Q NoE s := h
end Mine
namespace Mine
theorem execs_app (env : Env) : ∀ a b : List Stmt, execs (a ++ b) env = execs a env >>= fun f => match f with | .next => execs b env | f => pure f
  | [], b => by show execs b env = pure Flow.next >>= _; rw [pure_bind]
  | st :: a, b => by
    rw [List.cons_append, execs_cons, execs_cons, bind_assoc]
    congr 1
    funext f
    cases f with
    | next => exact execs_app env a b
    | brk => simp
    | cont => simp
    | ret v => simp
/-- what a piece of a block must leave -/
def CutEnd (g : Heap) (L : Addr) (I : (Str → Option Value) → List (Addr × Obj) → Prop) (s : Shared) (Q : Flow → Shared → Prop) (f : Flow) (s' : Shared) : Prop :=
  match f with
  | .next => ∃ h' tk' m' nw', s' = { s with heap := h', toks := tk' } ∧ Own g L h' m' nw' ∧ I m' nw'
  | f => Q f s'
theorem execs_cut {w : World} {A : Around} {env : Env} {g : Heap} {L : Addr} {s : Shared} {body : List Stmt} {Q : Flow → Shared → Prop} (n : Nat) (I : (Str → Option Value) → List (Addr × Obj) → Prop)
    (h : wpAny (MP w) A (execs (body.take n) env) (CutEnd g L I s Q) NoE s)
    (k : ∀ h' tk' m' nw', Own g L h' m' nw' → I m' nw' → wpAny (MP w) A (execs (body.drop n) env) Q NoE { s with heap := h', toks := tk' }) :
    wpAny (MP w) A (execs body env) Q NoE s := by
  have e : execs body env = execs (body.take n ++ body.drop n) env := by rw [List.take_append_drop]
  rw [e, execs_app]
  refine wpAny_bind (wpAny_mono h (fun f s' hc => ?_) fun _ _ x => x)
  cases f with
  | next => obtain ⟨h', tk', m', nw', rfl, O, hI⟩ := hc; exact k h' tk' m' nw' O hI
  | brk => exact wpAny_pure hc
  | cont => exact wpAny_pure hc
  | ret v => exact wpAny_pure hc
theorem while_cut {w : World} {A : Around} {env : Env} {g : Heap} {L : Addr} {s : Shared} {m : Str → Option Value} {nw : List (Addr × Obj)} {test : PySem.Expr} {body : List Stmt} {pos : Pos} {Q : Flow → Shared → Prop}
    (J : Nat → (Str → Option Value) → List (Addr × Obj) → Prop) (n : Nat) (I : (Str → Option Value) → List (Addr × Obj) → Prop)
    (F : Own g L s.heap m nw) (h0 : J n m nw)
    (turn : ∀ k m₁ nw₁ h tk, J k m₁ nw₁ → Own g L h m₁ nw₁ →
      wpAny (MP w) A (isTrue test env (eval test env)) (fun b s₂ =>
        if b then wpAny (MP w) A (execs body env) (TurnEnd g L (fun m' nw' => ∃ k', k' < k ∧ J k' m' nw') s Q) NoE s₂ else CutEnd g L I s Q .next s₂) NoE { s with heap := h, toks := tk })
    (k : ∀ h' tk' m' nw', Own g L h' m' nw' → I m' nw' → Q .next { s with heap := h', toks := tk' }) :
    WhileHere w A env test body pos Q s := by
  refine while_inv J n F h0 fun k' m₁ nw₁ h tk hJ O => wpAny_mono (turn k' m₁ nw₁ h tk hJ O) (fun b s₂ h₂ => ?_) fun _ _ x => x
  cases b with
  | true => exact h₂
  | false => obtain ⟨h', tk', m', nw', rfl, O', hI⟩ := h₂; exact k h' tk' m' nw' O' hI
end Mine
namespace Mine
theorem callWithO {w : World} {A : Around} {E : Value → Shared → Prop} {s : Shared} {g : Heap} {env : Env} {pos : Pos} {f : Value} {e : PySem.Expr} {rest : List PySem.Expr} {Q : Value → Shared → Prop} (X : Amb w g) (hk : keepIn (hd.heap_39 w.params) f = true)
    (h : wpAny (MP w) A (spliced (backTo pos (starEach (e :: rest) env))) (fun vs s₁ => Stay g s₁.heap ∧ wpAny (MP w) A (call f vs) Q E s₁) E s)
    (he : starEach (e :: rest) env = (false, eval e env) :: starEach rest env := by rfl) (hplain : (backTo pos (starEach rest env)).any (·.1) = false := by rfl) :
    wpAny (MP w) A (callWith pos f [] (backTo pos (starEach (e :: rest) env)) []) Q E s :=
  callWith_K X.X hk (wpAny_mono h (fun _ _ hc => ⟨X.X.keeps hc.1, hc.2⟩) fun _ _ x => x) he hplain
end Mine
end
section
open PySem PySem.W PyProof.Rows PySem.Calls
set_option Elab.async false
set_option maxRecDepth 100000
set_option maxHeartbeats 1500000
namespace Mine
def cost (c d : Nat) : Int := if c = d then 0 else if c % 32 = d % 32 then 1 else 2
def Ltr (c : Nat) : Prop := c = 65 ∨ c = 66 ∨ c = 97 ∨ c = 98
def low (c : Nat) : Nat := if c = 65 then 97 else if c = 66 then 98 else c
def swp (c : Nat) : Nat := if c = 65 then 97 else if c = 66 then 98 else if c = 97 then 65 else 66
theorem lower_S {c : Nat} (h : Ltr c) : Txt.lower (S [c]) = S [low c] := by
  rcases h with rfl | rfl | rfl | rfl <;> decide +kernel
theorem swap_S {c : Nat} (h : Ltr c) : Txt.swapcase (S [c]) = S [swp c] := by
  rcases h with rfl | rfl | rfl | rfl <;> decide +kernel
theorem lowS {w : World} {A : Around} {s : Shared} {Q E : Value → Shared → Prop} {c : Nat} {t : Tok} (hc : Ltr c) (h : Q (.str (S [low c]) s.toks) { s with toks := s.toks + 1 }) : wpAny (MP w) A (call (.builtin "str.lower") [.str (S [c]) t]) Q E s :=
  SCL.lower (by rw [S_len, List.length_singleton]; decide) (fun _ => by rw [lower_S hc]; exact h)
theorem cost0 {c d : Nat} (h : [c] = [d]) : 0 = cost c d := by
  simp only [List.cons.injEq, and_true] at h; subst h; simp [cost]
theorem cost1 {c d : Nat} (hc : Ltr c) (hd : Ltr d) (h : ¬ [c] = [d]) (h' : [low c] = [low d]) : 1 = cost c d := by
  rcases hc with rfl | rfl | rfl | rfl <;> rcases hd with rfl | rfl | rfl | rfl <;> first | rfl | (revert h h'; decide)
theorem cost2 {c d : Nat} (hc : Ltr c) (hd : Ltr d) (h : ¬ [c] = [d]) (h' : ¬ [low c] = [low d]) : 2 = cost c d := by
  rcases hc with rfl | rfl | rfl | rfl <;> rcases hd with rfl | rfl | rfl | rfl <;> first | rfl | (revert h h'; decide)
def MAXI : Int := 9223372036854775807
def innerGo (c : Nat) : List Nat → List Int → Int → Int → Int → List Int × Int × Int
  | a :: as, e :: es, d, r, mn =>
    let res := min (min r e + 2) (d + cost c a)
    let x := innerGo c as es e res (if res < mn then res else mn)
    (res :: x.1, x.2.1, x.2.2)
  | _, _, _, r, mn => ([], r, mn)
def outerGo (p : List Nat) (mc : Int) : List Nat → Nat → List Int → Int → Int
  | [], _, _, r => r
  | c :: cs, i, row, _ =>
    let x := innerGo c p row ((i : Int) * 2) ((i : Int) * 2) MAXI
    if mc < x.2.2 then mc + 1 else outerGo p mc cs (i + 1) x.1 x.2.1
def levCore (x y : List Nat) (mc : Int) : Int :=
  if x = [] ∨ y = [] then 2 * ((x.length : Int) + y.length) else
  let p := if y.length < x.length then y else x
  let q := if y.length < x.length then x else y
  if mc < ((q.length : Int) - p.length) * 2 then mc + 1 else outerGo p mc q 0 (rangeInts 2 2 p.length) 0
def LevRel (a b : List Nat) (mc r : Int) : Prop := (a = b ∧ r = 0) ∨ ∃ c x y d, a = c ++ x ++ d ∧ b = c ++ y ++ d ∧ r = levCore x y mc
theorem take_step {a b : List Nat} {p : Nat} (hp : p < a.length) (hq : p < b.length) (h : a.take p = b.take p) (e : [a.getD p 0] = [b.getD p 0]) : a.take (p + 1) = b.take (p + 1) := by
  rw [List.take_add_one, List.take_add_one, h]
  simp [List.getD, hp, hq] at e
  simp [hp, hq, e]
theorem drop_step {a b : List Nat} {q : Nat} (hp : q < a.length) (hq : q < b.length) (h : a.drop (a.length - q) = b.drop (b.length - q)) (e : [a.getD (a.length - (q + 1)) 0] = [b.getD (b.length - (q + 1)) 0]) :
    a.drop (a.length - (q + 1)) = b.drop (b.length - (q + 1)) := by
  rw [List.drop_eq_getElem_cons (show a.length - (q + 1) < a.length by omega), List.drop_eq_getElem_cons (show b.length - (q + 1) < b.length by omega),
    show a.length - (q + 1) + 1 = a.length - q by omega, show b.length - (q + 1) + 1 = b.length - q by omega, h]
  simp [List.getD, show a.length - (q + 1) < a.length by omega, show b.length - (q + 1) < b.length by omega] at e
  rw [e]
theorem levRel_of {a b : List Nat} {mc : Int} {p q : Nat} (h1 : a.take p = b.take p) (h2 : (a.drop p).drop ((a.drop p).length - q) = (b.drop p).drop ((b.drop p).length - q)) :
    LevRel a b mc (levCore ((a.drop p).take ((a.drop p).length - q)) ((b.drop p).take ((b.drop p).length - q)) mc) := by
  refine .inr ⟨a.take p, _, _, (a.drop p).drop ((a.drop p).length - q), ?_, ?_, rfl⟩
  · rw [List.append_assoc, List.take_append_drop, List.take_append_drop]
  · rw [h1, h2, List.append_assoc, List.take_append_drop, List.take_append_drop]
theorem drop_at' {α : Type} {ws : List α} {i : Nat} {x : α} (h : ws[i]? = some x) : ws.drop i = x :: ws.drop (i + 1) := by
  obtain ⟨hi, e⟩ := List.getElem?_eq_some_iff.mp h
  rw [List.drop_eq_getElem_cons hi, e]
def comb (dn : List Int) (x : List Int × Int × Int) : List Int × Int × Int := (dn ++ x.1, x.2.1, x.2.2)
theorem comb_step {c a : Nat} {as : List Nat} {e : Int} {es dn : List Int} {d r mn : Int} {T : List Int × Int × Int} (h : comb dn (innerGo c (a :: as) (e :: es) d r mn) = T) (mn' : Int) (hm : mn' = if min (min r e + 2) (d + cost c a) < mn then min (min r e + 2) (d + cost c a) else mn) :
    comb (dn ++ [min (min r e + 2) (d + cost c a)]) (innerGo c as es e (min (min r e + 2) (d + cost c a)) mn') = T := by
  subst hm
  rw [← h]
  simp [comb, innerGo]
theorem comb_end {c : Nat} {dn : List Int} {d r mn : Int} {T : List Int × Int × Int} (h : comb dn (innerGo c [] [] d r mn) = T) : T = (dn, r, mn) := by
  rw [← h]; simp [comb, innerGo]
theorem set_mid {dn es : List Int} {e x : Int} : (dn ++ e :: es).set dn.length x = dn ++ [x] ++ es := by
  rw [List.set_append_right _ _ (Nat.le_refl _)]; simp
theorem outer_step {p : List Nat} {mc : Int} {c : Nat} {cs : List Nat} {i : Nat} {row dn : List Int} {r0 r mn v : Int} (hT : innerGo c p row ((i : Int) * 2) ((i : Int) * 2) MAXI = (dn, r, mn)) (h : outerGo p mc (c :: cs) i row r0 = v) (hm : ¬ mc < mn) : outerGo p mc cs (i + 1) dn r = v := by
  rw [← h]; simp only [outerGo, hT]; rw [if_neg hm]
theorem outer_stop {p : List Nat} {mc : Int} {c : Nat} {cs : List Nat} {i : Nat} {row dn : List Int} {r0 r mn v : Int} (hT : innerGo c p row ((i : Int) * 2) ((i : Int) * 2) MAXI = (dn, r, mn)) (h : outerGo p mc (c :: cs) i row r0 = v) (hm : mc < mn) : v = mc + 1 := by
  rw [← h]; simp only [outerGo, hT]; rw [if_pos hm]
theorem set_row {vs : List Value} {dn es : List Int} {e x : Int} {j : Nat} {t : Tok} (d2 : IntsAre vs (dn ++ e :: es)) (d3 : dn.length = j) : IntsAre (vs.set j (.int x t)) (dn ++ [x] ++ es) := by
  subst d3
  have := ints_set d2 dn.length x t
  rwa [set_mid] at this
end Mine
end
end
section
open PySem PySem.W PyProof.Rows PySem.Calls PySem.Builtin PySem.Builtin.Str
set_option Elab.async false
set_option maxRecDepth 100000
set_option maxHeartbeats 8000000
namespace Mine
section
variable {w : World} {A : Around} {E : Value → Shared → Prop} {s : Shared} {g h : Heap} {L : Addr} {m : Str → Option Value} {nw : List (Addr × Obj)} {Q : Value → Shared → Prop} {a b : Int} {t u : Tok}
theorem fdO (hb : 0 < b) (hb' : b < 1000000000) (h : Q (.int (a / b) s.toks) { s with toks := s.toks + 1 }) : wpAny (MP w) A (binaryOp .FloorDiv (.int a t) (.int b u)) Q E s :=
  floordiv_int (by omega) (by rw [Int.fdiv_eq_ediv_of_nonneg _ (by omega)]; exact h) (Or.inl (PyProof.noPylong_small (by omega)))
theorem mdO (hb : 0 < b) (h : Q (.int (a % b) s.toks) { s with toks := s.toks + 1 }) : wpAny (MP w) A (binaryOp .Mod (.int a t) (.int b u)) Q E s :=
  PyProof.Rows.mod_int (by omega) (by rw [Int.fmod_eq_emod_of_nonneg _ (by omega)]; exact h)
theorem pwO (hn : 0 ≤ b) (hn2 : b ≤ 1000) (ha : a.natAbs < 1000000) (h : Q (.int (a ^ b.toNat) s.toks) { s with toks := s.toks + 1 }) : wpAny (MP w) A (binaryOp .Pow (.int a t) (.int b u)) Q E s :=
  pow_int_small hn (by omega) (by omega) h
theorem itemS4 {value slice : PySem.Expr} {x0 x1 x2 x3 : List Nat} {t0 t1 t2 t3 : Tok} {l : Addr} {k : Int} {u : Tok} (hl : s.heap.IsList l [.str (S x0) t0, .str (S x1) t1, .str (S x2) t2, .str (S x3) t3].toArray) (h0 : 0 ≤ k) (h1 : k < 4)
    (h : ∀ t, Q (.str (S ([x0, x1, x2, x3].getD k.toNat [])) t) s)
    (hs : subscripted slice false (.ref l) (.int k u) = operate [.ref l, .int k u] (getItem (.ref l) (.int k u)) := by first | exact subd_name | exact subd_const | exact subd_bin | exact subd_un) :
    wpAny (MP w) A (subscriptTail value slice (.ref l) (.int k u)) Q E s := by
  have e : k.toNat = 0 ∨ k.toNat = 1 ∨ k.toNat = 2 ∨ k.toNat = 3 := by omega
  rcases e with e | e | e | e
  all_goals rw [e] at h
  · exact itemO hl h0 (by omega) (by rw [e]; rfl) (h _) hs
  · exact itemO hl h0 (by omega) (by rw [e]; rfl) (h _) hs
  · exact itemO hl h0 (by omega) (by rw [e]; rfl) (h _) hs
  · exact itemO hl h0 (by omega) (by rw [e]; rfl) (h _) hs
theorem itemS5 {value slice : PySem.Expr} {x0 x1 x2 x3 x4 : List Nat} {t0 t1 t2 t3 t4 : Tok} {l : Addr} {k : Int} {u : Tok} (hl : s.heap.IsList l [.str (S x0) t0, .str (S x1) t1, .str (S x2) t2, .str (S x3) t3, .str (S x4) t4].toArray) (h0 : 0 ≤ k) (h1 : k < 5)
    (h : ∀ t, Q (.str (S ([x0, x1, x2, x3, x4].getD k.toNat [])) t) s)
    (hs : subscripted slice false (.ref l) (.int k u) = operate [.ref l, .int k u] (getItem (.ref l) (.int k u)) := by first | exact subd_name | exact subd_const | exact subd_bin | exact subd_un) :
    wpAny (MP w) A (subscriptTail value slice (.ref l) (.int k u)) Q E s := by
  have e : k.toNat = 0 ∨ k.toNat = 1 ∨ k.toNat = 2 ∨ k.toNat = 3 ∨ k.toNat = 4 := by omega
  rcases e with e | e | e | e | e
  all_goals rw [e] at h
  · exact itemO hl h0 (by omega) (by rw [e]; rfl) (h _) hs
  · exact itemO hl h0 (by omega) (by rw [e]; rfl) (h _) hs
  · exact itemO hl h0 (by omega) (by rw [e]; rfl) (h _) hs
  · exact itemO hl h0 (by omega) (by rw [e]; rfl) (h _) hs
  · exact itemO hl h0 (by omega) (by rw [e]; rfl) (h _) hs
theorem swapL {x : List Nat} (h1 : x.length ≤ 1) (hx : ∀ c ∈ x, Ltr c) : Txt.swapcase (S x) = S (x.map swp) := by
  match x, h1 with
  | [], _ => decide +kernel
  | [c], _ => exact swap_S (hx c (.head _))
theorem swpS {x : List Nat} (h1 : x.length ≤ 1) (hx : ∀ c ∈ x, Ltr c) (h : Q (.str (S (x.map swp)) s.toks) { s with toks := s.toks + 1 }) : wpAny (MP w) A (call (.builtin "str.swapcase") [.str (S x) t]) Q E s :=
  SCL.swapcase (by rw [S_len]; omega) (fun _ => by rw [swapL h1 hx]; exact h)
end
def nstep (nm : List Nat) (f : Nat) : List Nat :=
  nm.take (f / 5 % 5) ++ ([(nm.take (f / 5 % 5 + 1)).drop (f / 5 % 5), [], [([97, 98, 65, 66] : List Nat).getD (f / 25) 0] ++ (nm.take (f / 5 % 5 + 1)).drop (f / 5 % 5), [([97, 98, 65, 66] : List Nat).getD (f / 25) 0], ((nm.take (f / 5 % 5 + 1)).drop (f / 5 % 5)).map swp].getD (f % 5) []) ++ nm.drop (f / 5 % 5 + 1)
def nmAt (word : List Nat) (number : Int) : Nat → List Nat
  | 0 => word
  | i + 1 => nstep (nmAt word number i) (number / 100 ^ i % 100).toNat
def msgF (name : List Nat) (number : Int) : List Nat :=
  (([[], [109, 46], [109, 46, 110, 46], [46, 46]] : List (List Nat)).getD (number / 1000000 % 4).toNat []) ++ name ++ (([[], [58], [58, 32, 98, 46, 65], [10, 98, 58, 32, 65]] : List (List Nat)).getD (number / 4000000 % 4).toNat [])
theorem ltr_pick (f : Nat) (h : f < 100) : Ltr (([97, 98, 65, 66] : List Nat).getD (f / 25) 0) := by
  have : f / 25 = 0 ∨ f / 25 = 1 ∨ f / 25 = 2 ∨ f / 25 = 3 := by omega
  unfold Ltr
  rcases this with e | e | e | e <;> rw [e] <;> simp
theorem ltr_swp {c : Nat} (h : Ltr c) : Ltr (swp c) := by
  rcases h with rfl | rfl | rfl | rfl <;> unfold Ltr <;> decide
theorem nstep_ltr {nm : List Nat} {f : Nat} (h : ∀ c ∈ nm, Ltr c) (hf : f < 100) : ∀ c ∈ nstep nm f, Ltr c := by
  have hh : ∀ c ∈ (nm.take (f / 5 % 5 + 1)).drop (f / 5 % 5), Ltr c := fun c hc => h c (List.mem_of_mem_take (List.mem_of_mem_drop hc))
  have hp := ltr_pick f hf
  intro c hc
  unfold nstep at hc
  rcases List.mem_append.mp hc with hc | hc
  · rcases List.mem_append.mp hc with hc | hc
    · exact h c (List.mem_of_mem_take hc)
    · have : f % 5 = 0 ∨ f % 5 = 1 ∨ f % 5 = 2 ∨ f % 5 = 3 ∨ f % 5 = 4 := by omega
      rcases this with e | e | e | e | e <;> rw [e] at hc
      · exact hh c hc
      · cases hc
      · rcases List.mem_append.mp hc with hc | hc
        · rw [List.mem_singleton.mp hc]; exact hp
        · exact hh c hc
      · rw [List.mem_singleton.mp hc]; exact hp
      · obtain ⟨d, hd, rfl⟩ := List.mem_map.mp hc
        exact ltr_swp (hh d hd)
  · exact h c (List.mem_of_mem_drop hc)
theorem nstep_len {nm : List Nat} {f : Nat} : (nstep nm f).length ≤ nm.length + 1 := by
  unfold nstep
  simp only [List.length_append, List.length_take, List.length_drop]
  have : f % 5 = 0 ∨ f % 5 = 1 ∨ f % 5 = 2 ∨ f % 5 = 3 ∨ f % 5 = 4 := by omega
  rcases this with e | e | e | e | e <;> rw [e] <;> simp <;> omega
theorem nmAt_ltr {word : List Nat} {number : Int} (h : ∀ c ∈ word, Ltr c) : ∀ i, ∀ c ∈ nmAt word number i, Ltr c
  | 0 => h
  | i + 1 => nstep_ltr (nmAt_ltr h i) (by have := Int.emod_lt_of_pos (number / 100 ^ i) (show (0 : Int) < 100 by decide); have := Int.emod_nonneg (number / 100 ^ i) (show (100 : Int) ≠ 0 by decide); omega)
theorem nmAt_len {word : List Nat} {number : Int} : ∀ i, (nmAt word number i).length ≤ word.length + i
  | 0 => Nat.le_refl _
  | i + 1 => by have h1 := nmAt_len (word := word) (number := number) i; have h2 := nstep_len (nm := nmAt word number i) (f := (number / 100 ^ i % 100).toNat); show (nstep _ _).length ≤ _; omega
end Mine
end
section
local macro_rules | `(tactic| omega) => `(tactic| lia)
section
open PySem PySem.W PyProof.Rows PySem.Calls PySem.Builtin PySem.Builtin.Str
set_option Elab.async false
set_option maxRecDepth 100000
set_option maxHeartbeats 8000000
namespace Mine
inductive StrL : List Value → List (List Nat) → Prop
  | nil : StrL [] []
  | cons (x : List Nat) (t : Tok) {vs xs} : StrL vs xs → StrL (.str (S x) t :: vs) (x :: xs)
theorem StrL.length : ∀ {vs xs}, StrL vs xs → vs.length = xs.length
  | _, _, .nil => rfl
  | _, _, .cons _ _ h => by rw [List.length_cons, List.length_cons, h.length]
theorem StrL.get : ∀ {vs xs}, StrL vs xs → ∀ {i : Nat} {x : List Nat}, xs[i]? = some x → ∃ t, vs[i]? = some (.str (S x) t)
  | _, _, .nil, _, _, h => by simp at h
  | _, _, .cons x t _, 0, _, h => by simp at h; subst h; exact ⟨t, rfl⟩
  | _, _, .cons _ _ r, i + 1, _, h => by simpa using r.get (by simpa using h)
theorem StrL.at : ∀ {vs xs}, StrL vs xs → ∀ {i : Nat} {v : Value}, vs[i]? = some v → ∃ x t, v = .str (S x) t ∧ xs[i]? = some x
  | _, _, .nil, _, _, h => by simp at h
  | _, _, .cons x t _, 0, _, h => by simp at h; subst h; exact ⟨x, t, rfl, rfl⟩
  | _, _, .cons _ _ r, i + 1, _, h => by simpa using r.at (by simpa using h)
theorem StrL.snoc : ∀ {vs xs}, StrL vs xs → ∀ (x : List Nat) (t : Tok), StrL (vs ++ [.str (S x) t]) (xs ++ [x])
  | _, _, .nil, x, t => .cons x t .nil
  | _, _, .cons y u r, x, t => .cons y u (r.snoc x t)

def dots : List Nat := [46, 46, 46]
def wantAt (ps : List (List Nat)) (i j : Nat) : List Nat := (if 0 < i then dots else []) ++ (ps.getD i [] ++ dots ++ ps.getD j []) ++ (if j + 1 < ps.length then dots else [])
def rowW (ps : List (List Nat)) (j n : Nat) : List (List Nat) := (List.range n).map fun i => wantAt ps i j
def wantsUp (ps : List (List Nat)) : Nat → List (List Nat)
  | 0 => []
  | k + 1 => wantsUp ps k ++ rowW ps (k + 1) (k + 1)
theorem rowW_zero {ps : List (List Nat)} {j : Nat} : rowW ps j 0 = [] := rfl
theorem rowW_succ {ps : List (List Nat)} {j n : Nat} : rowW ps j (n + 1) = rowW ps j n ++ [wantAt ps n j] := by
  simp [rowW, List.range_succ]
def condA (ps : List (List Nat)) (name : List Nat) (i k : Nat) : Bool := if i = 0 then decide (ps.getD i [] <+: name.take k) else (findL (name.take k) (ps.getD i []) 0 (name.take k).length).isSome
def condB (ps : List (List Nat)) (name : List Nat) (j k : Nat) : Bool := if j + 1 = ps.length then decide (ps.getD j [] <:+ name.drop k) else (findL (name.drop k) (ps.getD j []) 0 (name.drop k).length).isSome
def Stands (ps : List (List Nat)) (name : List Nat) : Prop := ∃ j i k, 1 ≤ j ∧ j < ps.length ∧ i < j ∧ k ≤ name.length ∧ condA ps name i k = true ∧ condB ps name j k = true
theorem snoc_want {vs : List Value} {xs : List (List Nat)} {T : List Nat} {t : Tok} {ps : List (List Nat)} {i k : Nat} (h : StrL vs (xs ++ rowW ps (k + 1) i)) (e : T = wantAt ps i (k + 1)) : StrL (vs ++ [.str (S T) t]) (xs ++ rowW ps (k + 1) (i + 1)) := by
  subst e; rw [rowW_succ, ← List.append_assoc]; exact h.snoc _ _
section
variable {ps : List (List Nat)} {name : List Nat} {i j k n : Nat}
theorem A0t (hi : (i : Int) = 0) (h : ps.getD i [] <+: name.take ((k : Int)).toNat) : condA ps name i k = true := by rw [Int.toNat_natCast] at h; rw [condA, if_pos (by omega)]; exact decide_eq_true h
theorem A0f (hi : (i : Int) = 0) (h : ¬ ps.getD i [] <+: name.take ((k : Int)).toNat) : condA ps name i k = false := by rw [Int.toNat_natCast] at h; rw [condA, if_pos (by omega)]; exact decide_eq_false h
theorem A1 {b : Bool} (hi : (i : Int) ≠ 0) (h : (findL (name.take ((k : Int)).toNat) (ps.getD i []) 0 (name.take ((k : Int)).toNat).length).isSome = b) : condA ps name i k = b := by rw [Int.toNat_natCast] at h; rw [condA, if_neg (by omega)]; exact h
theorem B0t (hn : n = ps.length) (hj : 1 + (j : Int) = (n : Int) - 1) (h : ps.getD (j + 1) [] <:+ name.drop ((k : Int)).toNat) : condB ps name (j + 1) k = true := by rw [Int.toNat_natCast] at h; rw [condB, if_pos (by omega)]; exact decide_eq_true h
theorem B0f (hn : n = ps.length) (hj : 1 + (j : Int) = (n : Int) - 1) (h : ¬ ps.getD (j + 1) [] <:+ name.drop ((k : Int)).toNat) : condB ps name (j + 1) k = false := by rw [Int.toNat_natCast] at h; rw [condB, if_pos (by omega)]; exact decide_eq_false h
theorem B1 {b : Bool} (hn : n = ps.length) (hj : 1 + (j : Int) ≠ (n : Int) - 1) (h : (findL (name.drop ((k : Int)).toNat) (ps.getD (j + 1) []) 0 (name.drop ((k : Int)).toNat).length).isSome = b) : condB ps name (j + 1) k = b := by rw [Int.toNat_natCast] at h; rw [condB, if_neg (by omega)]; exact h
theorem no_A (e : ∀ k', k' < k → condA ps name i k' = true → condB ps name (j + 1) k' = true → False) (h : condA ps name i k = false) : ∀ k', k' < k + 1 → condA ps name i k' = true → condB ps name (j + 1) k' = true → False := fun k' h1 h2 h3 => by
  rcases Nat.lt_or_ge k' k with hk | hk
  · exact e k' hk h2 h3
  · obtain rfl : k' = k := by omega
    rw [h] at h2; cases h2
theorem no_B (e : ∀ k', k' < k → condA ps name i k' = true → condB ps name (j + 1) k' = true → False) (h : condB ps name (j + 1) k = false) : ∀ k', k' < k + 1 → condA ps name i k' = true → condB ps name (j + 1) k' = true → False := fun k' h1 h2 h3 => by
  rcases Nat.lt_or_ge k' k with hk | hk
  · exact e k' hk h2 h3
  · obtain rfl : k' = k := by omega
    rw [h] at h3; cases h3
end
theorem getD_some {ps : List (List Nat)} {i : Nat} (h : i < ps.length) : ps[i]? = some (ps.getD i []) := by simp [List.getD, h]
theorem piece_at {items : List Value} {ps : List (List Nat)} (h : StrL items ps) {k : Int} {i : Nat} (hk : k.toNat = i) (hi : i < ps.length) : ∃ t, items.toArray[k.toNat]? = some (.str (S (ps.getD i [])) t) := by
  obtain ⟨t, e⟩ := h.get (getD_some hi)
  exact ⟨t, by rw [hk]; simpa using e⟩
end Mine
end
section
open PySem PySem.W PyProof.Rows PySem.Calls PySem.Builtin PySem.Builtin.Str
set_option Elab.async false
set_option maxRecDepth 100000
set_option maxHeartbeats 8000000
namespace Mine
theorem cost_nonneg (c d : Nat) : 0 ≤ cost c d := by unfold cost; split; omega; split <;> omega
theorem cost_le (c d : Nat) : cost c d ≤ 2 := by unfold cost; split; omega; split <;> omega
theorem cost_self (c : Nat) : cost c c = 0 := by simp [cost]
theorem cost_symm (c d : Nat) : cost c d = cost d c := by unfold cost; simp only [eq_comm]
inductive Al : List Nat → List Nat → Int → Prop
  | nil : Al [] [] 0
  | del (c : Nat) {a b k} : Al a b k → Al (c :: a) b (k + 2)
  | ins (c : Nat) {a b k} : Al a b k → Al a (c :: b) (k + 2)
  | sub (c d : Nat) {a b k} : Al a b k → Al (c :: a) (d :: b) (k + cost c d)
theorem Al.nonneg {a b k} (h : Al a b k) : 0 ≤ k := by
  induction h with
  | nil => omega
  | del => omega
  | ins => omega
  | sub c d _ ih => have := cost_nonneg c d; omega
theorem Al.to {a b k k'} (h : Al a b k) (e : k = k') : Al a b k' := e ▸ h
theorem Al.symm {a b k} (h : Al a b k) : Al b a k := by
  induction h with
  | nil => exact .nil
  | del c _ ih => exact .ins c ih
  | ins c _ ih => exact .del c ih
  | sub c d _ ih => exact (Al.sub d c ih).to (by rw [cost_symm])
theorem Al.app {a b k a' b' k'} (h : Al a b k) (h' : Al a' b' k') : Al (a ++ a') (b ++ b') (k + k') := by
  induction h with
  | nil => exact h'.to (by omega)
  | del c _ ih => exact (Al.del c ih).to (by omega)
  | ins c _ ih => exact (Al.ins c ih).to (by omega)
  | sub c d _ ih => exact (Al.sub c d ih).to (by omega)
theorem Al.rev {a b k} (h : Al a b k) : Al a.reverse b.reverse k := by
  induction h with
  | nil => exact .nil
  | del c _ ih => rw [List.reverse_cons]; simpa using ih.app (Al.del c .nil)
  | ins c _ ih => rw [List.reverse_cons]; simpa using ih.app (Al.ins c .nil)
  | sub c d _ ih => rw [List.reverse_cons, List.reverse_cons]; simpa using ih.app (Al.sub c d .nil)
theorem Al.self : ∀ a, Al a a 0
  | [] => .nil
  | c :: a => (Al.sub c c (Al.self a)).to (by rw [cost_self]; rfl)
theorem Al.len {a b k} (h : Al a b k) : 2 * ((b.length : Int) - a.length) ≤ k ∧ 2 * ((a.length : Int) - b.length) ≤ k := by
  induction h with
  | nil => simp
  | del c _ ih => simp only [List.length_cons]; omega
  | ins c _ ih => simp only [List.length_cons]; omega
  | sub c d _ ih => have := cost_nonneg c d; simp only [List.length_cons]; omega
theorem Al.dropR {a b k} (h : Al a b k) : ∀ {c b'}, b = c :: b' → ∃ k', k' ≤ k + 2 ∧ Al a b' k' := by
  induction h with
  | nil => intro _ _ e; cases e
  | del d _ ih => intro c b' e; obtain ⟨k', h1, h2⟩ := ih e; exact ⟨_, by omega, .del d h2⟩
  | ins d h _ => intro c b' e; cases e; exact ⟨_, by omega, h⟩
  | sub c d h _ => intro c' b' e; cases e; exact ⟨_, by have := cost_nonneg c d; omega, .del c h⟩
theorem Al.trim1 {c a b k} (h : Al (c :: a) (c :: b) k) : ∃ k', k' ≤ k ∧ Al a b k' := by
  cases h with
  | del _ h => obtain ⟨k', h1, h2⟩ := h.dropR rfl; exact ⟨k', h1, h2⟩
  | ins _ h => obtain ⟨k', h1, h2⟩ := h.symm.dropR rfl; exact ⟨k', h1, h2.symm⟩
  | sub _ _ h => exact ⟨_, by have := cost_nonneg c c; omega, h⟩
theorem Al.trimL : ∀ {c a b k}, Al (c ++ a) (c ++ b) k → ∃ k', k' ≤ k ∧ Al a b k'
  | [], _, _, k, h => ⟨k, Int.le_refl _, h⟩
  | _ :: _, _, _, _, h => by
    obtain ⟨k', h1, h2⟩ := h.trim1
    obtain ⟨k'', h3, h4⟩ := Al.trimL h2
    exact ⟨k'', by omega, h4⟩
theorem Al.trim {c x y d k} (h : Al (c ++ x ++ d) (c ++ y ++ d) k) : ∃ k', k' ≤ k ∧ Al x y k' := by
  rw [List.append_assoc, List.append_assoc] at h
  obtain ⟨k', h1, h2⟩ := h.trimL
  have h3 := h2.rev
  rw [List.reverse_append, List.reverse_append] at h3
  obtain ⟨k'', h4, h5⟩ := h3.trimL
  have h6 := h5.rev
  rw [List.reverse_reverse, List.reverse_reverse] at h6
  exact ⟨k'', by omega, h6⟩
def Dist (a b : List Nat) (v : Int) : Prop := Al a b v ∧ ∀ k, Al a b k → v ≤ k
def Good (a b : List Nat) (mc r : Int) : Prop := (r ≤ mc → Al a b r) ∧ ∀ k, Al a b k → k ≤ mc → r ≤ k
theorem Good.of {a b : List Nat} {mc r : Int} (h : Dist a b r) : Good a b mc r := ⟨fun _ => h.1, fun k hk _ => h.2 k hk⟩
theorem Al.nilR {a b k} (h : Al a b k) : b = [] → k = 2 * a.length := by
  induction h with
  | nil => simp
  | del c _ ih => intro e; have := ih e; simp only [List.length_cons]; omega
  | ins => intro e; cases e
  | sub => intro e; cases e
theorem Al.allDel : ∀ a : List Nat, Al a [] (2 * a.length)
  | [] => .nil
  | c :: a => (Al.del c (Al.allDel a)).to (by simp only [List.length_cons]; omega)
theorem dist_nilR (a : List Nat) : Dist a [] (2 * a.length) := ⟨.allDel a, fun k h => by rw [h.nilR rfl]; omega⟩
theorem dist_nilL (b : List Nat) : Dist [] b (2 * b.length) := ⟨(Al.allDel b).symm, fun k h => by rw [h.symm.nilR rfl]; omega⟩
theorem dist_step {a c : Nat} {P Q : List Nat} {d r e : Int} (hd : Dist P Q d) (hr : Dist P (c :: Q) r) (he : Dist (a :: P) Q e) : Dist (a :: P) (c :: Q) (min (min r e + 2) (d + cost c a)) := by
  refine ⟨?_, ?_⟩
  · rcases Int.le_total (min r e + 2) (d + cost c a) with h | h
    · rw [Int.min_eq_left h]
      rcases Int.le_total r e with h' | h'
      · rw [Int.min_eq_left h']; exact .del a hr.1
      · rw [Int.min_eq_right h']; exact .ins c he.1
    · rw [Int.min_eq_right h, cost_symm]; exact .sub a c hd.1
  · intro k hk
    cases hk with
    | del _ h => have := hr.2 _ h; omega
    | ins _ h => have := he.2 _ h; omega
    | sub _ _ h => have := hd.2 _ h; rw [cost_symm a c]; omega
def Row : List Nat → List Nat → List Nat → List Int → Prop
  | _, [], _, es => es = []
  | P, a :: as, Q, es => ∃ e es', es = e :: es' ∧ Dist (a :: P) Q e ∧ Row (a :: P) as Q es'
theorem inner_ok {c : Nat} {Q : List Nat} : ∀ {as P : List Nat} {es : List Int} {d r mn : Int}, Row P as Q es → Dist P Q d → (Dist P (c :: Q) r ∨ (r = d ∧ Dist P (c :: Q) (d + 2) ∧ as ≠ [])) →
    Row P as (c :: Q) (innerGo c as es d r mn).1 ∧ Dist (as.reverse ++ P) (c :: Q) (innerGo c as es d r mn).2.1 ∧ (∀ v ∈ (innerGo c as es d r mn).1, (innerGo c as es d r mn).2.2 ≤ v) ∧ (innerGo c as es d r mn).2.2 ≤ mn
  | [], P, es, d, r, mn, hR, hd, hr => by
    rcases hr with hr | ⟨_, _, h⟩
    · cases hR; exact ⟨rfl, hr, fun v hv => (nomatch hv), Int.le_refl _⟩
    · exact absurd rfl h
  | a :: as, P, es, d, r, mn, hR, hd, hr => by
    obtain ⟨e, es', rfl, he, hR'⟩ := hR
    have hD : Dist (a :: P) (c :: Q) (min (min r e + 2) (d + cost c a)) := by
      rcases hr with hr | ⟨rfl, hr, _⟩
      · exact dist_step hd hr he
      · have h := dist_step hd hr he
        have h1 := cost_le c a
        rwa [show min (min (r + 2) e + 2) (r + cost c a) = min (min r e + 2) (r + cost c a) by omega] at h
    generalize hres : min (min r e + 2) (d + cost c a) = res at hD
    obtain ⟨g1, g2, g3, g4⟩ := inner_ok (c := c) (mn := if res < mn then res else mn) hR' he (.inl hD)
    have e1 : innerGo c (a :: as) (e :: es') d r mn = (res :: (innerGo c as es' e res (if res < mn then res else mn)).1, (innerGo c as es' e res (if res < mn then res else mn)).2.1, (innerGo c as es' e res (if res < mn then res else mn)).2.2) := by
      simp only [innerGo, hres]
    rw [e1]
    have h5 : (if res < mn then res else mn) ≤ res ∧ (if res < mn then res else mn) ≤ mn := by split <;> omega
    refine ⟨⟨_, _, rfl, hD, g1⟩, by simpa using g2, ?_, by dsimp only; omega⟩
    intro v hv
    rcases List.mem_cons.mp hv with rfl | hv
    · dsimp only; omega
    · exact g3 v hv
theorem Al.through {X W : List Nat} {k : Int} (h : Al X W k) : ∀ {Y Q : List Nat}, W = Y ++ Q → ∃ X1 X2 k2, X = X1 ++ X2 ∧ k2 ≤ k ∧ Al X2 Q k2 := by
  induction h with
  | nil => intro Y Q e; have e' := List.append_eq_nil_iff.mp e.symm; obtain ⟨rfl, rfl⟩ := e'; exact ⟨[], [], 0, rfl, by omega, .nil⟩
  | del c h ih => intro Y Q e; obtain ⟨X1, X2, k2, rfl, h2, h3⟩ := ih e; exact ⟨c :: X1, X2, k2, rfl, by omega, h3⟩
  | ins c h ih =>
    intro Y Q e
    cases Y with
    | nil => subst e; exact ⟨[], _, _, rfl, Int.le_refl _, .ins c h⟩
    | cons y Y => simp only [List.cons_append, List.cons.injEq] at e; obtain ⟨X1, X2, k2, e1, h2, h3⟩ := ih e.2; exact ⟨X1, X2, k2, e1, by omega, h3⟩
  | sub c d h ih =>
    intro Y Q e
    cases Y with
    | nil => subst e; exact ⟨[], _, _, rfl, Int.le_refl _, .sub c d h⟩
    | cons y Y => simp only [List.cons_append, List.cons.injEq] at e; obtain ⟨X1, X2, k2, rfl, h2, h3⟩ := ih e.2; exact ⟨c :: X1, X2, k2, rfl, by have := cost_nonneg c d; omega, h3⟩
theorem row_get {Q : List Nat} : ∀ {as P : List Nat} {es : List Int}, Row P as Q es → ∀ {X2 X1 : List Nat}, as.reverse ++ P = X1 ++ X2 → P.length < X2.length → ∃ v ∈ es, Dist X2 Q v
  | [], P, es, _, X2, X1, e, hl => by
    have := congrArg List.length e; simp at this; omega
  | a :: as, P, es, hR, X2, X1, e, hl => by
    obtain ⟨v, es', rfl, he, hR'⟩ := hR
    rw [List.reverse_cons, List.append_assoc] at e
    rcases Nat.lt_or_ge (P.length + 1) X2.length with hl' | hl'
    · obtain ⟨v', hv, hd⟩ := row_get hR' e (by simpa using hl')
      exact ⟨v', .tail _ hv, hd⟩
    · have e2 : X2 = a :: P := by
        have h1 := congrArg (fun z => z.drop (z.length - X2.length)) e
        simp only [List.length_append, List.length_reverse, List.length_singleton] at h1
        have h2 : X1.length + X2.length - X2.length = X1.length := by omega
        rw [h2, List.drop_left] at h1
        rw [show as.length + (1 + P.length) - X2.length = as.reverse.length by simp; omega, List.drop_left] at h1
        exact h1.symm
      exact ⟨v, .head _, e2 ▸ he⟩
theorem outer_ok {p : List Nat} {mc : Int} (hp : p ≠ []) : ∀ {rest Q : List Nat} {row : List Int} {r0 : Int}, Row [] p Q row → (rest = [] → Dist p.reverse Q r0) →
    Good p.reverse (rest.reverse ++ Q) mc (outerGo p mc rest Q.length row r0)
  | [], Q, row, r0, hR, h0 => .of (h0 rfl)
  | c :: cs, Q, row, r0, hR, h0 => by
    have hd := dist_nilL Q
    have hd2 : Dist [] (c :: Q) ((Q.length : Int) * 2 + 2) := by have h := dist_nilL (c :: Q); rwa [show 2 * ((c :: Q).length : Int) = (Q.length : Int) * 2 + 2 by simp only [List.length_cons]; omega] at h
    rw [show 2 * (Q.length : Int) = (Q.length : Int) * 2 by omega] at hd
    obtain ⟨g1, g2, g3, g4⟩ := inner_ok (c := c) (mn := MAXI) hR hd (.inr ⟨rfl, hd2, hp⟩)
    rw [List.reverse_cons, List.append_assoc]
    simp only [outerGo]
    split
    · rename_i hlt
      refine ⟨fun h => by omega, fun k hk hkm => ?_⟩
      exfalso
      obtain ⟨X1, X2, k2, e1, h2, h3⟩ := hk.through (Y := cs.reverse) (Q := c :: Q) rfl
      rcases X2 with _ | ⟨x, X2⟩
      · have h4 := hd2.2 _ h3
        obtain ⟨a, as, rfl⟩ : ∃ a as, p = a :: as := by cases p with | nil => exact absurd rfl hp | cons a as => exact ⟨a, as, rfl⟩
        obtain ⟨v, es', ev, hv, _⟩ := g1
        have h5 := g3 v (by rw [ev]; exact .head _)
        have h6 := hv.2 _ (.sub a c hd.1)
        have h7 := cost_le a c
        omega
      · obtain ⟨v, hv, hD⟩ := row_get g1 (X1 := X1) (X2 := x :: X2) (by simpa using e1) (by simp)
        have h5 := g3 v hv
        have h6 := hD.2 _ h3
        omega
    · have h := outer_ok hp (rest := cs) (Q := c :: Q) (mc := mc) g1 (r0 := (innerGo c p row ((Q.length : Int) * 2) ((Q.length : Int) * 2) MAXI).2.1) (fun _ => by simpa using g2)
      exact h
theorem row_init : ∀ (as P : List Nat), Row P as [] ((List.range as.length).map fun i => (2 * (P.length : Int) + 2) + (i : Nat) * 2)
  | [], _ => rfl
  | a :: as, P => by
    have h := row_init as (a :: P)
    rw [List.length_cons, List.range_succ_eq_map, List.map_cons, List.map_map]
    refine ⟨_, _, rfl, ?_, ?_⟩
    · have h2 := dist_nilR (a :: P)
      rwa [show 2 * ((a :: P).length : Int) = 2 * (P.length : Int) + 2 + ((0 : Nat) : Int) * 2 by simp only [List.length_cons]; omega] at h2
    · have e : ((fun i : Nat => (2 * (P.length : Int) + 2) + (i : Int) * 2) ∘ Nat.succ) = fun i : Nat => (2 * ((a :: P).length : Int) + 2) + (i : Int) * 2 := by
        funext i; simp only [Function.comp, List.length_cons]; omega
      rw [e]; exact h
theorem Good.symm {a b : List Nat} {mc r : Int} (h : Good a b mc r) : Good b a mc r := ⟨fun hr => (h.1 hr).symm, fun k hk hm => h.2 k hk.symm hm⟩
theorem core_good (x y : List Nat) (mc : Int) : Good x y mc (levCore x y mc) := by
  unfold levCore
  split
  · rename_i h
    rcases h with rfl | rfl
    · have h := Good.of (mc := mc) (dist_nilL y); simpa using h
    · have h := Good.of (mc := mc) (dist_nilR x); simpa using h
  rename_i h
  have hx : x ≠ [] := fun e => h (.inl e)
  have hy : y ≠ [] := fun e => h (.inr e)
  have main : ∀ p q : List Nat, p ≠ [] → q ≠ [] → Good p q mc (if mc < ((q.length : Int) - p.length) * 2 then mc + 1 else outerGo p mc q 0 (rangeInts 2 2 p.length) 0) := by
    intro p q hp hq
    split
    · exact ⟨fun h => by omega, fun k hk hm => by have := hk.len; omega⟩
    · have h := outer_ok (mc := mc) (rest := q) (Q := []) (r0 := 0) hp (row_init p []) (fun e => absurd e hq)
      have h2 : Good p.reverse q.reverse mc (outerGo p mc q 0 (rangeInts 2 2 p.length) 0) := by simpa [rangeInts] using h
      exact ⟨fun hr => by simpa using (h2.1 hr).rev, fun k hk hm => h2.2 k hk.rev hm⟩
  by_cases hl : y.length < x.length
  · simp only [hl, if_true]; exact (main y x hy hx).symm
  · simp only [hl, if_false]; exact main x y hx hy
theorem lev_good {a b : List Nat} {mc r : Int} (h : LevRel a b mc r) : Good a b mc r := by
  rcases h with ⟨rfl, rfl⟩ | ⟨c, x, y, d, rfl, rfl, rfl⟩
  · exact ⟨fun _ => .self _, fun k hk _ => hk.nonneg⟩
  · have h := core_good x y mc
    refine ⟨fun hr => ?_, fun k hk hm => ?_⟩
    · exact (((Al.self c).app (h.1 hr)).app (Al.self d)).to (by omega)
    · obtain ⟨k', h1, h2⟩ := hk.trim
      have := h.2 k' h2 (by omega)
      omega
def ham (a b : List Nat) : Int := (List.zipWith cost a b).sum
theorem ham_cons {a b : Nat} {as bs : List Nat} : ham (a :: as) (b :: bs) = cost a b + ham as bs := by simp [ham]
theorem ham_al : ∀ {a b : List Nat}, a.length = b.length → Al a b (ham a b)
  | [], [], _ => .nil
  | x :: a, y :: b, h => (Al.sub x y (ham_al (by simpa using h))).to (by rw [ham_cons]; omega)
theorem ham_del : ∀ {k : Nat} {a b : List Nat}, a.length = b.length + 1 → k < a.length → Al a b (2 + ham (a.eraseIdx k) b)
  | 0, x :: a, b, h, _ => (Al.del x (ham_al (by simpa using h))).to (by simp only [List.eraseIdx_cons_zero]; omega)
  | k + 1, x :: a, [], h, hk => by simp at h hk; subst h; simp at hk
  | k + 1, x :: a, y :: b, h, hk => (Al.sub x y (ham_del (k := k) (by simpa using h) (by simpa using hk))).to (by simp only [List.eraseIdx_cons_succ, ham_cons]; omega)
theorem al_one {a b : List Nat} {c : Int} (h : Al a b c) : c ≤ 1 → a.length = b.length ∧ ham a b ≤ c := by
  induction h with
  | nil => intro _; exact ⟨rfl, by simp [ham]⟩
  | del x h _ => intro hc; have := h.nonneg; omega
  | ins x h _ => intro hc; have := h.nonneg; omega
  | sub x y h ih => intro hc; have h1 := cost_nonneg x y; obtain ⟨h2, h3⟩ := ih (by omega); exact ⟨by simp [h2], by rw [ham_cons]; omega⟩
def Near (a b : List Nat) (c : Int) : Prop := (a.length = b.length ∧ ham a b ≤ c) ∨ (a.length = b.length + 1 ∧ ∃ k, k < a.length ∧ 2 + ham (a.eraseIdx k) b ≤ c) ∨ (b.length = a.length + 1 ∧ ∃ k, k < b.length ∧ 2 + ham (b.eraseIdx k) a ≤ c)
theorem ham_symm : ∀ (a b : List Nat), ham a b = ham b a
  | [], [] => rfl
  | [], _ :: _ => rfl
  | _ :: _, [] => rfl
  | x :: a, y :: b => by rw [ham_cons, ham_cons, ham_symm a b, cost_symm]
theorem al_three {a b : List Nat} {c : Int} (h : Al a b c) : c ≤ 3 → Near a b c := by
  induction h with
  | nil => intro _; exact .inl ⟨rfl, by simp [ham]⟩
  | del x h _ => intro hc; obtain ⟨h1, h2⟩ := al_one h (by omega); exact .inr (.inl ⟨by simp [h1], 0, by simp, by simp only [List.eraseIdx_cons_zero]; omega⟩)
  | @ins x a b k h _ => intro hc; obtain ⟨h1, h2⟩ := al_one h (by omega); exact .inr (.inr ⟨by simp [h1], 0, by simp, by simp only [List.eraseIdx_cons_zero]; rw [ham_symm]; omega⟩)
  | sub x y h ih =>
    intro hc
    have h1 := cost_nonneg x y
    rcases ih (by omega) with ⟨h2, h3⟩ | ⟨h2, k, hk, h3⟩ | ⟨h2, k, hk, h3⟩
    · exact .inl ⟨by simp [h2], by rw [ham_cons]; omega⟩
    · exact .inr (.inl ⟨by simp [h2], k + 1, by simpa using hk, by simp only [List.eraseIdx_cons_succ, ham_cons]; omega⟩)
    · exact .inr (.inr ⟨by simp [h2], k + 1, by simpa using hk, by simp only [List.eraseIdx_cons_succ, ham_cons]; rw [cost_symm]; omega⟩)
theorem near_al {a b : List Nat} {c : Int} (h : Near a b c) : ∃ c', c' ≤ c ∧ Al a b c' := by
  rcases h with ⟨h2, h3⟩ | ⟨h2, k, hk, h3⟩ | ⟨h2, k, hk, h3⟩
  · exact ⟨_, h3, ham_al h2⟩
  · exact ⟨_, h3, ham_del h2 hk⟩
  · exact ⟨_, h3, (ham_del h2 hk).symm⟩
end Mine
end
section
open PySem PySem.W PyProof.Rows PySem.Calls PySem.Builtin PySem.Builtin.Str
set_option Elab.async false
set_option maxRecDepth 100000
set_option maxHeartbeats 8000000
namespace Mine
def Occ (y p : List Nat) (i : Nat) : Prop := (y.drop i).take p.length = p
theorem at_iff {x y : List Nat} {hi i : Nat} : at? x y hi i = true ↔ i + y.length ≤ hi ∧ Occ x y i := by
  simp [at?, Occ]
theorem findL_some {x y : List Nat} {lo hi i : Nat} (h : findL x y lo hi = some i) : lo ≤ i ∧ i + y.length ≤ hi ∧ Occ x y i ∧ ∀ j, lo ≤ j → j < i → j + y.length ≤ hi → ¬ Occ x y j := by
  unfold findL at h
  have h1 := List.find?_some h
  have h2 := List.mem_of_find?_eq_some h
  rw [List.mem_range'_1] at h2
  rw [at_iff] at h1
  refine ⟨h2.1, h1.1, h1.2, fun j h3 h4 h5 h6 => ?_⟩
  obtain ⟨_, as, bs, e, hn⟩ := List.find?_eq_some_iff_append.mp h
  have hj : j ∈ List.range' lo (hi + 1 - lo) := by rw [List.mem_range'_1]; omega
  rw [e] at hj
  rcases List.mem_append.mp hj with hj | hj
  · have := hn j hj; rw [at_iff.mpr ⟨h5, h6⟩] at this; simp at this
  · have hs : (as ++ i :: bs).Pairwise (· < ·) := e ▸ List.pairwise_lt_range' (s := lo) (n := hi + 1 - lo)
    rcases List.mem_cons.mp hj with rfl | hj
    · omega
    · have := (List.pairwise_cons.mp (List.pairwise_append.mp hs).2.1).1 j hj; omega
theorem findL_isSome {x y : List Nat} {lo hi : Nat} : (findL x y lo hi).isSome = true ↔ ∃ i, lo ≤ i ∧ i + y.length ≤ hi ∧ Occ x y i := by
  constructor
  · intro h
    obtain ⟨i, hi'⟩ := Option.isSome_iff_exists.mp h
    have := findL_some hi'
    exact ⟨i, this.1, this.2.1, this.2.2.1⟩
  · rintro ⟨i, h1, h2, h3⟩
    unfold findL
    rw [List.find?_isSome]
    exact ⟨i, by rw [List.mem_range'_1]; omega, at_iff.mpr ⟨h2, h3⟩⟩
theorem findL_least {x y : List Nat} {lo hi i : Nat} (h1 : lo ≤ i) (h2 : i + y.length ≤ hi) (h3 : Occ x y i) : ∃ j, findL x y lo hi = some j ∧ lo ≤ j ∧ j ≤ i := by
  obtain ⟨j, hj⟩ := Option.isSome_iff_exists.mp (findL_isSome.mpr ⟨i, h1, h2, h3⟩)
  have h := findL_some hj
  refine ⟨j, hj, h.1, ?_⟩
  rcases Nat.lt_or_ge i j with hl | hl
  · exact absurd h3 (h.2.2.2 i h1 hl h2)
  · exact hl
theorem occ_nil {x : List Nat} {i : Nat} : Occ x [] i := by simp [Occ]
theorem findL_nil {x : List Nat} {lo hi : Nat} (h : lo ≤ hi) : findL x [] lo hi = some lo := by
  obtain ⟨j, h1, h2, h3⟩ := findL_least (x := x) (y := []) (Nat.le_refl lo) (by simpa using h) occ_nil
  rw [h1]; congr 1; omega
def Emb (front back : Bool) (p q y : List Nat) : Prop := ∃ i j, i + p.length ≤ j ∧ j + q.length ≤ y.length ∧ Occ y p i ∧ Occ y q j ∧ (front = true → i = 0) ∧ (back = true → j + q.length = y.length)
theorem pre_occ {p y : List Nat} : p <+: y ↔ Occ y p 0 := by
  rw [List.prefix_iff_eq_take, Occ, List.drop_zero, eq_comm]
theorem suf_occ {q y : List Nat} (h : q.length ≤ y.length) : q <:+ y ↔ Occ y q (y.length - q.length) := by
  rw [List.suffix_iff_eq_drop, Occ, eq_comm, List.take_of_length_le (by rw [List.length_drop]; omega)]
theorem occ_len {y p : List Nat} {i : Nat} (h : Occ y p i) : p.length ≤ y.length - i := by
  have := congrArg List.length h
  rw [List.length_take, List.length_drop] at this; omega
theorem ellGo_cons {y w : List Nat} {ws : List (List Nat)} {e sp : Nat} (he : e ≤ y.length) : (ellGo y e (w :: ws) sp).isSome = true ↔ ∃ i, findL y w sp e = some i ∧ (ellGo y e ws (i + w.length)).isSome = true := by
  rw [ellGo, Nat.min_eq_left he]
  cases findL y w sp e with
  | none => simp
  | some i => simp
theorem ellF_tt {p q y : List Nat} : ellF true true p q y = true ↔ Emb true true p q y := by
  simp only [ellF, Bool.not_true, Bool.false_or, if_true, List.append_nil, ellGo, Option.isSome_some, Bool.and_true, Bool.and_eq_true, decide_eq_true_eq]
  constructor
  · rintro ⟨⟨h1, h2⟩, h3⟩
    exact ⟨0, y.length - q.length, by omega, by omega, pre_occ.mp h1, (suf_occ (by omega)).mp h2, fun _ => rfl, fun _ => by omega⟩
  · rintro ⟨i, j, h1, h2, h3, h4, h5, h6⟩
    obtain rfl := h5 rfl
    have h6 := h6 rfl
    obtain rfl : j = y.length - q.length := by omega
    exact ⟨⟨pre_occ.mpr h3, (suf_occ (by omega)).mpr h4⟩, by omega⟩
theorem ellF_tf {p q y : List Nat} : ellF true false p q y = true ↔ Emb true false p q y := by
  simp only [ellF, Bool.not_true, Bool.false_or, if_true, Bool.not_false, Bool.true_or, Bool.and_true, Bool.false_eq_true, if_false, List.nil_append, Nat.add_zero, Nat.sub_zero, Bool.and_eq_true, decide_eq_true_eq]
  rw [ellGo_cons (Nat.le_refl _)]
  constructor
  · rintro ⟨⟨h1, h2⟩, j, h3, _⟩
    have h := findL_some h3
    exact ⟨0, j, by omega, h.2.1, pre_occ.mp h1, h.2.2.1, fun _ => rfl, nofun⟩
  · rintro ⟨i, j, h1, h2, h3, h4, h5, h6⟩
    obtain rfl := h5 rfl
    obtain ⟨j', g1, g2, g3⟩ := findL_least (lo := p.length) (hi := y.length) (by omega) h2 h4
    refine ⟨⟨pre_occ.mpr h3, by omega⟩, j', g1, ?_⟩
    rw [ellGo_cons (Nat.le_refl _)]
    exact ⟨_, findL_nil (by omega), rfl⟩
theorem ellF_ft {p q y : List Nat} : ellF false true p q y = true ↔ Emb false true p q y := by
  simp only [ellF, Bool.not_true, Bool.false_or, if_true, Bool.not_false, Bool.true_or, Bool.true_and, Bool.false_eq_true, if_false, List.append_nil, Nat.zero_add, Bool.and_eq_true, decide_eq_true_eq]
  rw [ellGo_cons (by omega)]
  constructor
  · rintro ⟨⟨h1, h2⟩, j, h3, h4⟩
    rw [findL_nil (by omega)] at h3
    obtain rfl := Option.some.inj h3
    rw [ellGo_cons (by omega)] at h4
    obtain ⟨i, h5, _⟩ := h4
    have h := findL_some h5
    exact ⟨i, y.length - q.length, h.2.1, by omega, h.2.2.1, (suf_occ h2).mp h1, nofun, fun _ => by omega⟩
  · rintro ⟨i, j, h1, h2, h3, h4, h5, h6⟩
    have h6 := h6 rfl
    obtain rfl : j = y.length - q.length := by omega
    refine ⟨⟨(suf_occ (by omega)).mpr h4, by omega⟩, 0, findL_nil (by omega), ?_⟩
    rw [ellGo_cons (by omega)]
    obtain ⟨j', g1, g2, g3⟩ := findL_least (lo := 0) (hi := y.length - q.length) (by omega) h1 h3
    exact ⟨j', g1, rfl⟩
theorem ellF_ff {p q y : List Nat} : ellF false false p q y = true ↔ Emb false false p q y := by
  simp only [ellF, Bool.not_false, Bool.true_or, Bool.true_and, Bool.false_eq_true, if_false, List.cons_append, List.nil_append, Nat.zero_add, Nat.zero_le, decide_true, Nat.sub_zero]
  rw [ellGo_cons (by omega)]
  constructor
  · rintro ⟨j, h3, h4⟩
    rw [findL_nil (by omega)] at h3
    obtain rfl := Option.some.inj h3
    rw [ellGo_cons (by omega)] at h4
    obtain ⟨i, h5, h6⟩ := h4
    rw [ellGo_cons (by omega)] at h6
    obtain ⟨j, h7, _⟩ := h6
    have h := findL_some h5
    have h' := findL_some h7
    exact ⟨i, j, by simpa using h'.1, h'.2.1, h.2.2.1, h'.2.2.1, nofun, nofun⟩
  · rintro ⟨i, j, h1, h2, h3, h4, h5, h6⟩
    refine ⟨0, findL_nil (by omega), ?_⟩
    rw [ellGo_cons (by omega)]
    obtain ⟨i', g1, g2, g3⟩ := findL_least (lo := 0) (hi := y.length) (by omega) (by omega) h3
    refine ⟨i', by simpa using g1, ?_⟩
    rw [ellGo_cons (by omega)]
    obtain ⟨j', k1, k2, k3⟩ := findL_least (lo := i' + p.length) (hi := y.length) (by omega) h2 h4
    refine ⟨j', k1, ?_⟩
    rw [ellGo_cons (by omega)]
    exact ⟨_, findL_nil (by omega), rfl⟩
theorem ellF_iff {f b : Bool} {p q y : List Nat} : ellF f b p q y = true ↔ Emb f b p q y := by
  cases f <;> cases b
  · exact ellF_ff
  · exact ellF_ft
  · exact ellF_tf
  · exact ellF_tt
theorem occ_take {y p : List Nat} {i k : Nat} (h : i + p.length ≤ k) : Occ (y.take k) p i ↔ Occ y p i := by
  unfold Occ
  rw [List.drop_take, List.take_take, Nat.min_eq_left (by omega)]
theorem occ_drop {y p : List Nat} {i k : Nat} : Occ (y.drop k) p i ↔ Occ y p (k + i) := by
  unfold Occ
  rw [List.drop_drop]
theorem condA_iff {ps : List (List Nat)} {name : List Nat} {i k : Nat} (hk : k ≤ name.length) : condA ps name i k = true ↔ ∃ o, o + (ps.getD i []).length ≤ k ∧ Occ name (ps.getD i []) o ∧ (i = 0 → o = 0) := by
  unfold condA
  split
  · rename_i hi
    rw [decide_eq_true_eq, pre_occ]
    constructor
    · intro h
      have := occ_len h
      rw [List.length_take] at this
      exact ⟨0, by omega, (occ_take (by omega)).mp h, fun _ => rfl⟩
    · rintro ⟨o, h1, h2, h3⟩
      obtain rfl := h3 hi
      exact (occ_take h1).mpr h2
  · rename_i hi
    rw [findL_isSome, List.length_take, Nat.min_eq_left hk]
    constructor
    · rintro ⟨o, _, h1, h2⟩
      exact ⟨o, h1, (occ_take h1).mp h2, fun e => absurd e hi⟩
    · rintro ⟨o, h1, h2, _⟩
      exact ⟨o, Nat.zero_le _, h1, (occ_take h1).mpr h2⟩
theorem condB_iff {ps : List (List Nat)} {name : List Nat} {j k : Nat} (hk : k ≤ name.length) : condB ps name j k = true ↔ ∃ o, k ≤ o ∧ o + (ps.getD j []).length ≤ name.length ∧ Occ name (ps.getD j []) o ∧ (j + 1 = ps.length → o + (ps.getD j []).length = name.length) := by
  unfold condB
  split
  · rename_i hi
    rw [decide_eq_true_eq]
    constructor
    · intro h
      have hl : (ps.getD j []).length ≤ (name.drop k).length := h.length_le
      rw [suf_occ hl, occ_drop] at h
      rw [List.length_drop] at h hl
      exact ⟨_, by omega, by omega, h, fun _ => by omega⟩
    · rintro ⟨o, h1, h2, h3, h4⟩
      have h4 := h4 hi
      rw [suf_occ (by rw [List.length_drop]; omega), occ_drop, List.length_drop, show k + (name.length - k - (ps.getD j []).length) = o by omega]
      exact h3
  · rename_i hi
    rw [findL_isSome, List.length_drop]
    constructor
    · rintro ⟨o, _, h1, h2⟩
      exact ⟨k + o, by omega, by omega, occ_drop.mp h2, fun e => absurd e hi⟩
    · rintro ⟨o, h1, h2, h3, _⟩
      exact ⟨o - k, Nat.zero_le _, by omega, occ_drop.mpr (by rwa [show k + (o - k) = o by omega])⟩
def EmbAt (ps : List (List Nat)) (name : List Nat) (i j : Nat) : Prop := Emb (decide (i = 0)) (decide (j + 1 = ps.length)) (ps.getD i []) (ps.getD j []) name
theorem stands_iff {ps : List (List Nat)} {name : List Nat} : Stands ps name ↔ ∃ i j, i < j ∧ j < ps.length ∧ EmbAt ps name i j := by
  constructor
  · rintro ⟨j, i, k, h1, h2, h3, h4, h5, h6⟩
    obtain ⟨o, a1, a2, a3⟩ := (condA_iff h4).mp h5
    obtain ⟨o', b1, b2, b3, b4⟩ := (condB_iff h4).mp h6
    exact ⟨i, j, h3, h2, o, o', by omega, b2, a2, b3, by simpa using a3, by simpa using b4⟩
  · rintro ⟨i, j, h1, h2, o, o', a1, a2, a3, a4, a5, a6⟩
    exact ⟨j, i, o', by omega, h2, h1, by omega, (condA_iff (by omega)).mpr ⟨o, a1, a3, by simpa using a5⟩, (condB_iff (by omega)).mpr ⟨o', Nat.le_refl _, a2, a4, by simpa using a6⟩⟩
end Mine
end
section
open PySem PySem.W PyProof.Rows PySem.Calls PySem.Builtin PySem.Builtin.Str
set_option Elab.async false
set_option maxRecDepth 100000
set_option maxHeartbeats 8000000
namespace Mine
def rowsF (lo : List Nat) (more : Nat) : List (List Nat) := if more = 0 then [lo] else if more = 1 then (List.range lo.length).map fun k => lo.take k ++ lo.drop (k + 1) else []
def loF (word name : List Nat) : List Nat := if name.length < word.length then word else name
def shF (word name : List Nat) : List Nat := if name.length < word.length then name else word
def pricesF (word name : List Nat) : List Int := 4 :: (rowsF (loF word name) ((loF word name).length - (shF word name).length)).map fun r => 2 * (((loF word name).length : Int) - (shF word name).length) + ham r (shF word name)
def minL : List Int → Int
  | [] => 0
  | [x] => x
  | x :: y :: l => min x (minL (y :: l))
theorem minL_le : ∀ {l : List Int} {c : Int}, l ≠ [] → (minL l ≤ c ↔ ∃ x ∈ l, x ≤ c)
  | [], _, h => absurd rfl h
  | [x], c, _ => by simp [minL]
  | x :: y :: l, c, _ => by
    have := minL_le (l := y :: l) (c := c) (by simp)
    rw [minL]
    constructor
    · intro h
      rcases Int.le_total x (minL (y :: l)) with h' | h'
      · exact ⟨x, .head _, by omega⟩
      · obtain ⟨z, h1, h2⟩ := this.mp (by omega)
        exact ⟨z, .tail _ h1, h2⟩
    · rintro ⟨z, h1, h2⟩
      rcases List.mem_cons.mp h1 with rfl | h1
      · omega
      · have := this.mpr ⟨z, h1, h2⟩; omega
def priceF (word name : List Nat) : Int := minL (pricesF word name)
theorem price_near {word name : List Nat} {c : Int} (hc : c ≤ 3) : priceF word name ≤ c ↔ Near word name c := by
  rw [priceF, minL_le (by simp [pricesF])]
  unfold pricesF
  constructor
  · rintro ⟨x, hx, hxc⟩
    rcases List.mem_cons.mp hx with rfl | hx
    · omega
    obtain ⟨r, hr, rfl⟩ := List.mem_map.mp hx
    unfold rowsF at hr
    by_cases hl : name.length < word.length
    · simp only [loF, shF, hl, if_true] at hr hxc
      split at hr
      · omega
      split at hr
      · obtain ⟨k, hk, rfl⟩ := List.mem_map.mp hr
        refine .inr (.inl ⟨by omega, k, by simpa using hk, ?_⟩)
        rw [List.eraseIdx_eq_take_drop_succ]; omega
      · cases hr
    · simp only [loF, shF, hl, if_false] at hr hxc
      split at hr
      · obtain rfl := List.mem_singleton.mp hr
        exact .inl ⟨by omega, by rw [ham_symm]; omega⟩
      split at hr
      · obtain ⟨k, hk, rfl⟩ := List.mem_map.mp hr
        refine .inr (.inr ⟨by omega, k, by simpa using hk, ?_⟩)
        rw [List.eraseIdx_eq_take_drop_succ]; omega
      · cases hr
  · rintro (⟨h1, h2⟩ | ⟨h1, k, hk, h2⟩ | ⟨h1, k, hk, h2⟩)
    · have hl : ¬ name.length < word.length := by omega
      simp only [loF, shF, hl, if_false, rowsF, show name.length - word.length = 0 by omega, if_true]
      exact ⟨_, .tail _ (.head _), by dsimp only; rw [ham_symm]; omega⟩
    · have hl : name.length < word.length := by omega
      simp only [loF, shF, hl, if_true, rowsF, show word.length - name.length = 1 by omega]
      refine ⟨_, .tail _ (List.mem_map.mpr ⟨_, by rw [if_neg (by omega)]; exact List.mem_map.mpr ⟨k, by simpa using hk, rfl⟩, rfl⟩), ?_⟩
      rw [← List.eraseIdx_eq_take_drop_succ]; omega
    · have hl : ¬ name.length < word.length := by omega
      simp only [loF, shF, hl, if_false, rowsF, show name.length - word.length = 1 by omega]
      refine ⟨_, .tail _ (List.mem_map.mpr ⟨_, by rw [if_neg (by omega), if_pos trivial]; exact List.mem_map.mpr ⟨k, by simpa using hk, rfl⟩, rfl⟩), ?_⟩
      rw [← List.eraseIdx_eq_take_drop_succ]; omega
theorem lev_price {word name : List Nat} {mc r : Int} (hm : mc ≤ 3) (h : LevRel word name mc r) : (r ≤ mc ↔ priceF word name ≤ mc) ∧ (r ≤ mc → r = priceF word name) := by
  have g := lev_good h
  have one : r ≤ mc → r = priceF word name := fun hr => by
    have h1 : priceF word name ≤ r := (price_near (by omega)).mpr (al_three (g.1 hr) (by omega))
    obtain ⟨c', h2, h3⟩ := near_al ((price_near (c := priceF word name) (by omega)).mp (Int.le_refl _))
    have := g.2 c' h3 (by omega)
    omega
  refine ⟨⟨fun hr => by rw [← one hr]; exact hr, fun hp => ?_⟩, one⟩
  obtain ⟨c', h2, h3⟩ := near_al ((price_near hm).mp hp)
  have := g.2 c' h3 (by omega)
  omega
-- near names stand
inductive Tg (word : List Nat) : List Nat → List (Option Nat) → Prop
  | nil : Tg word [] []
  | none (c : Nat) {cs ts} : Tg word cs ts → Tg word (c :: cs) (none :: ts)
  | some (c i : Nat) {cs ts} : word[i]? = some c → Tg word cs ts → Tg word (c :: cs) (some i :: ts)
theorem Tg.len {word cs ts} (h : Tg word cs ts) : cs.length = ts.length := by
  induction h with
  | nil => rfl
  | none _ _ ih => simp [ih]
  | some _ _ _ _ ih => simp [ih]
theorem Tg.drop {word cs ts} (h : Tg word cs ts) : ∀ k, Tg word (cs.drop k) (ts.drop k) := by
  induction h with
  | nil => intro k; simpa using Tg.nil
  | none c h ih => intro k; cases k with
    | zero => exact .none c h
    | succ k => exact ih k
  | some c i e h ih => intro k; cases k with
    | zero => exact .some c i e h
    | succ k => exact ih k
theorem Tg.pre {word cs ts} (h : Tg word cs ts) : ∀ {n lo : Nat}, ts.take n = (List.range' lo n).map Option.some → cs.take n = (word.drop lo).take n := by
  induction h with
  | nil =>
    intro n lo e
    cases n with
    | zero => simp
    | succ n => simp [List.range'_succ] at e
  | none c h ih =>
    intro n lo e
    cases n with
    | zero => simp
    | succ n => simp [List.range'_succ] at e
  | some c i ei h ih =>
    intro n lo e
    cases n with
    | zero => simp
    | succ n =>
      simp only [List.take_succ_cons, List.range'_succ, List.map_cons, List.cons.injEq, Option.some.injEq] at e
      obtain ⟨rfl, e⟩ := e
      have h1 := ih e
      obtain ⟨hi, e1⟩ := List.getElem?_eq_some_iff.mp ei
      rw [List.drop_eq_getElem_cons hi, List.take_succ_cons, List.take_succ_cons, h1, e1]
def cut (b k : Nat) : Nat := 5 * k / (b + 2)
def piecesF (word : List Nat) (b : Nat) : List (List Nat) := (List.range (b + 2)).map fun k => (word.take (cut b (k + 1))).drop (cut b k)
theorem piecesF_len {word : List Nat} {b : Nat} : (piecesF word b).length = b + 2 := by simp [piecesF]
theorem piecesF_get {word : List Nat} {b k : Nat} (h : k < b + 2) : (piecesF word b).getD k [] = (word.drop (cut b k)).take (cut b (k + 1) - cut b k) := by
  simp only [piecesF, List.getD, List.getElem?_map]
  rw [List.getElem?_range h]
  simp [List.drop_take]
def okAt (b : Nat) (t : List (Option Nat)) (k o : Nat) : Bool := decide (o + (cut b (k + 1) - cut b k) ≤ t.length) && ((t.drop o).take (cut b (k + 1) - cut b k) == (List.range' (cut b k) (cut b (k + 1) - cut b k)).map Option.some)
def check (b : Nat) (t : List (Option Nat)) : Bool :=
  (List.range (b + 2)).any fun j => (List.range j).any fun i => (List.range 7).any fun o => (List.range 7).any fun o' =>
    okAt b t i o && okAt b t j o' && decide (o + (cut b (i + 1) - cut b i) ≤ o') && (decide (i ≠ 0) || decide (o = 0)) && (decide (j + 1 ≠ b + 2) || decide (o' + (cut b (j + 1) - cut b j) = t.length))
theorem cut_le {b k : Nat} (h : k ≤ b + 2) : cut b k ≤ 5 := by
  unfold cut
  exact Nat.div_le_of_le_mul (by rw [Nat.mul_comm]; exact Nat.mul_le_mul_right _ h)
theorem check_stands {b : Nat} {word name : List Nat} {t : List (Option Nat)} (hw : word.length = 5) (hT : Tg word name t) (hc : check b t = true) : Stands (piecesF word b) name := by
  unfold check at hc
  simp only [List.any_eq_true, List.mem_range, Bool.and_eq_true, Bool.or_eq_true, decide_eq_true_eq, okAt, beq_iff_eq] at hc
  obtain ⟨j, hj, i, hi, o, _, o', _, ⟨⟨⟨⟨h1, h2⟩, h3, h4⟩, h5⟩, h6⟩, h7⟩ := hc
  have hl := hT.len
  have len : ∀ k, k < b + 2 → ((piecesF word b).getD k []).length = cut b (k + 1) - cut b k := fun k hk => by
    rw [piecesF_get hk, List.length_take, List.length_drop, hw]
    have := cut_le (b := b) (k := k + 1) (by omega)
    omega
  have oc : ∀ k p, k < b + 2 → (t.drop p).take (cut b (k + 1) - cut b k) = (List.range' (cut b k) (cut b (k + 1) - cut b k)).map Option.some → Occ name ((piecesF word b).getD k []) p := fun k p hk e => by
    unfold Occ
    rw [len k hk, (hT.drop p).pre e, piecesF_get hk]
  refine stands_iff.mpr ⟨i, j, hi, by rw [piecesF_len]; exact hj, o, o', ?_, ?_, oc i o (by omega) h2, oc j o' hj h4, ?_, ?_⟩
  · rw [len i (by omega)]; exact h5
  · rw [len j hj, hl]; exact h3
  · intro e; have e := of_decide_eq_true e; rcases h6 with h6 | h6
    · exact absurd e h6
    · exact h6
  · intro e; have e := of_decide_eq_true e; rw [len j hj, hl]; rw [piecesF_len] at e; rcases h7 with h7 | h7
    · exact absurd e h7
    · exact h7
def masks : Nat → List (List Bool)
  | 0 => [[]]
  | n + 1 => (masks n).map (true :: ·) ++ (masks n).map (false :: ·)
def bad (m : List Bool) : Nat := (m.filter (! ·)).length
def tagIt : List Nat → List Bool → List (Option Nat)
  | i :: is, m :: ms => (if m then some i else none) :: tagIt is ms
  | _, _ => []
-- a against b at equal lengths: the mask of equal places
def maskOf (a b : List Nat) : List Bool := List.zipWith (fun x y => decide (x = y)) a b
theorem mask_mem : ∀ (a b : List Nat), a.length = b.length → maskOf a b ∈ masks a.length
  | [], [], _ => .head _
  | x :: a, y :: b, h => by
    have := mask_mem a b (by simpa using h)
    show decide (x = y) :: maskOf a b ∈ _
    rw [List.length_cons, masks]
    cases decide (x = y)
    · exact List.mem_append_right _ (List.mem_map.mpr ⟨_, this, rfl⟩)
    · exact List.mem_append_left _ (List.mem_map.mpr ⟨_, this, rfl⟩)
theorem bad_ham : ∀ (a b : List Nat), (bad (maskOf a b) : Int) ≤ ham a b
  | [], _ => by simp [bad, maskOf, ham]
  | _ :: _, [] => by simp [bad, maskOf, ham]
  | x :: a, y :: b => by
    have h := bad_ham a b
    rw [ham_cons]
    by_cases e : x = y
    · have e1 : bad (maskOf (x :: a) (y :: b)) = bad (maskOf a b) := by simp [bad, maskOf, e]
      rw [e1]; have := cost_nonneg x y; omega
    · have e1 : bad (maskOf (x :: a) (y :: b)) = bad (maskOf a b) + 1 := by simp [bad, maskOf, e]
      have e2 : 1 ≤ cost x y := by unfold cost; rw [if_neg e]; split <;> omega
      rw [e1]; omega
-- name against the places is of word
theorem tg_mask (word : List Nat) : ∀ (name : List Nat) (is : List Nat), name.length = is.length → (∀ i ∈ is, i < word.length) → Tg word name (tagIt is (maskOf (is.map fun i => word.getD i 0) name))
  | [], [], _, _ => .nil
  | c :: cs, i :: is, h, hi => by
    have ih := tg_mask word cs is (by simpa using h) (fun i hi' => hi i (.tail _ hi'))
    show Tg word (c :: cs) ((if decide (word.getD i 0 = c) then some i else none) :: tagIt is (maskOf (is.map fun i => word.getD i 0) cs))
    by_cases e : word.getD i 0 = c
    · rw [if_pos (decide_eq_true e)]
      have hi := hi i (.head _)
      exact .some c i (by simp [List.getD, hi] at e; simp [hi, e]) ih
    · rw [decide_eq_false e]
      exact .none c ih
theorem Tg.insert {word cs ts} (h : Tg word cs ts) : ∀ {c k : Nat} {name : List Nat}, name.eraseIdx k = cs → name[k]? = Option.some c → Tg word name (ts.insertIdx k Option.none) := by
  induction h with
  | nil =>
    intro c k name e hk
    cases name with
    | nil => simp at hk
    | cons x xs =>
      cases k with
      | zero => simp at e; subst e; exact .none x .nil
      | succ k => simp at e
  | none d h ih =>
    intro c k name e hk
    cases name with
    | nil => simp at hk
    | cons x xs =>
      cases k with
      | zero => simp at e; subst e; exact .none x (.none d h)
      | succ k =>
        simp only [List.eraseIdx_cons_succ, List.cons.injEq] at e
        obtain ⟨rfl, e⟩ := e
        exact .none x (ih e (by simpa using hk))
  | some d i ei h ih =>
    intro c k name e hk
    cases name with
    | nil => simp at hk
    | cons x xs =>
      cases k with
      | zero => simp at e; subst e; exact .none x (.some d i ei h)
      | succ k =>
        simp only [List.eraseIdx_cons_succ, List.cons.injEq] at e
        obtain ⟨rfl, e⟩ := e
        exact .some x i ei (ih e (by simpa using hk))
def five : List Nat := [0, 1, 2, 3, 4]
theorem fin_eq : ((List.range 4).all fun b => (masks 5).all fun m => decide (b < bad m) || check b (tagIt five m)) = true := by decide +kernel
theorem fin_del : ((List.range 4).all fun b => (List.range 5).all fun k => (masks 4).all fun m => decide (b < 2 + bad m) || check b (tagIt (five.eraseIdx k) m)) = true := by decide +kernel
theorem fin_ins : ((List.range 4).all fun b => (List.range 6).all fun k => (masks 5).all fun m => decide (b < 2 + bad m) || check b ((tagIt five m).insertIdx k none)) = true := by decide +kernel
theorem five_word {word : List Nat} (hw : word.length = 5) : five.map (fun i => word.getD i 0) = word := by
  match word, hw with
  | [a, b, c, d, e], _ => rfl
theorem near_stands {b : Nat} {word name : List Nat} (hw : word.length = 5) (hb : b < 4) (h : Near word name b) : Stands (piecesF word b) name := by
  have f5 := five_word hw
  rcases h with ⟨h1, h2⟩ | ⟨h1, k, hk, h2⟩ | ⟨h1, k, hk, h2⟩
  · have hm := mask_mem word name h1
    have hb' := bad_ham word name
    have hf := fin_eq
    simp only [List.all_eq_true, List.mem_range, Bool.or_eq_true, decide_eq_true_eq] at hf
    have hT := tg_mask word name five (by rw [← h1, hw]; rfl) (by rw [hw]; decide)
    rw [f5] at hT
    rw [hw] at hm
    rcases hf b hb _ hm with hf | hf
    · omega
    · exact check_stands hw hT hf
  · have hk5 : k = 0 ∨ k = 1 ∨ k = 2 ∨ k = 3 ∨ k = 4 := by omega
    have e : (five.eraseIdx k).map (fun i => word.getD i 0) = word.eraseIdx k := by
      match word, hw with
      | [a, b, c, d, e], _ => rcases hk5 with rfl | rfl | rfl | rfl | rfl <;> rfl
    have e5 : (five.eraseIdx k).length = 4 ∧ ∀ i ∈ five.eraseIdx k, i < 5 := by rcases hk5 with rfl | rfl | rfl | rfl | rfl <;> decide
    have hlen : (word.eraseIdx k).length = 4 := by rw [List.length_eraseIdx, if_pos hk]; omega
    have hm := mask_mem (word.eraseIdx k) name (by omega)
    have hb' := bad_ham (word.eraseIdx k) name
    have hf := fin_del
    simp only [List.all_eq_true, List.mem_range, Bool.or_eq_true, decide_eq_true_eq] at hf
    have hT := tg_mask word name (five.eraseIdx k) (by rw [e5.1]; omega) (by rw [hw]; exact e5.2)
    rw [e] at hT
    rw [hlen] at hm
    rcases hf b hb k (by omega) _ hm with hf | hf
    · omega
    · exact check_stands hw hT hf
  · have hlen : (name.eraseIdx k).length = 5 := by rw [List.length_eraseIdx, if_pos hk]; omega
    have hm := mask_mem word (name.eraseIdx k) (by omega)
    have hb' := bad_ham word (name.eraseIdx k)
    have hf := fin_ins
    simp only [List.all_eq_true, List.mem_range, Bool.or_eq_true, decide_eq_true_eq] at hf
    have hT := tg_mask word (name.eraseIdx k) five (by rw [hlen]; rfl) (by rw [hw]; decide)
    rw [f5] at hT
    have hT2 := hT.insert rfl (List.getElem?_eq_getElem hk)
    rw [hw] at hm
    rw [ham_symm] at h2
    rcases hf b hb k (by omega) _ hm with hf | hf
    · omega
    · exact check_stands hw hT2 hf
end Mine
end
section
open PySem PySem.W PyProof.Rows PySem.Calls PySem.Builtin PySem.Builtin.Str
set_option Elab.async false
set_option maxRecDepth 100000
set_option maxHeartbeats 8000000
namespace Mine
def occG (x y : List Nat) (hi : Nat) : List Nat → Nat → List Nat
  | [], _ => []
  | i :: is, free => if free ≤ i ∧ at? x y hi i = true then i :: occG x y hi is (i + y.length) else occG x y hi is free
theorem occG_run (x y : List Nat) (hi lim : Nat) : ∀ (l : List Nat) (arr : Array Nat) (free : Nat), arr.size + l.length ≤ lim → (forIn l (arr, free) (StrLaws.occBody (S x) (S y) hi lim)).run.fst.toList = arr.toList ++ occG x y hi l free
  | [], arr, free, _ => by simp [occG]
  | i :: l, arr, free, h => by
    rw [List.forIn_cons, occG]
    simp only [List.length_cons] at h
    by_cases hc : free ≤ i ∧ at? x y hi i = true
    · have ha := (At_S x y hi i).mpr hc.2
      have h2 : StrLaws.occBody (S x) (S y) hi lim i (arr, free) = pure (ForInStep.yield (arr.push i, i + (S y).length)) := if_pos ⟨⟨⟨by show arr.size < lim; omega, hc.1⟩, ha.1⟩, ha.2⟩
      rw [h2, if_pos hc]
      show (forIn l (arr.push i, i + (S y).length) _ : Id _).run.fst.toList = _
      rw [occG_run x y hi lim l _ _ (by simp; omega), S_len]
      simp
    · have h2 : StrLaws.occBody (S x) (S y) hi lim i (arr, free) = pure (ForInStep.yield (arr, free)) := if_neg fun h => hc ⟨h.1.1.2, (At_S x y hi i).mp ⟨h.1.2, h.2⟩⟩
      rw [h2, if_neg hc]
      show (forIn l (arr, free) _ : Id _).run.fst.toList = _
      rw [occG_run x y hi lim l _ _ (by omega)]
theorem occ_list (x y : List Nat) : occurrences (S x) (S y) 0 (S x).length ((S x).length + 1) = occG x y x.length (List.range' 0 (x.length + 1)) 0 := by
  rw [StrLaws.occ_eq, occG_run _ _ _ _ _ _ _ (by simp)]
  simp
theorem occG_skip {x y : List Nat} {hi free : Nat} : ∀ {l l' : List Nat}, (∀ i ∈ l, ¬ (free ≤ i ∧ at? x y hi i = true)) → occG x y hi (l ++ l') free = occG x y hi l' free
  | [], _, _ => rfl
  | i :: l, l', h => by rw [List.cons_append, occG, if_neg (h i (.head _)), occG_skip fun i hi' => h i (.tail _ hi')]
def joinD : List (List Nat) → List Nat
  | [] => []
  | [w] => w
  | w :: v :: ws => w ++ (dots ++ joinD (v :: ws))
def cuts : Nat → List (List Nat) → List Nat
  | _, [] => []
  | _, [_] => []
  | o, w :: v :: ws => (o + w.length) :: cuts (o + w.length + 3) (v :: ws)
theorem no_occ {pre w r : List Nat} {i : Nat} (hw : 46 ∉ w) (h1 : pre.length ≤ i) (h2 : i < pre.length + w.length) : ¬ Occ (pre ++ (w ++ r)) dots i := by
  intro h
  have h3 : (pre ++ (w ++ r))[i]? = some 46 := by
    have h4 := congrArg (fun z => z[0]?) h
    simp only [dots, List.getElem?_take, List.getElem?_drop] at h4
    simpa using h4
  rw [List.getElem?_append_right h1, List.getElem?_append_left (by omega)] at h3
  exact hw (List.mem_of_getElem? h3)
theorem occG_join : ∀ {ws : List (List Nat)} {pre x : List Nat}, ws ≠ [] → (∀ w ∈ ws, 46 ∉ w) → x = pre ++ joinD ws → occG x dots x.length (List.range' pre.length ((joinD ws).length + 1)) pre.length = cuts pre.length ws
  | [], _, _, h, _, _ => absurd rfl h
  | [w], pre, x, _, hw, e => by
    have h := occG_skip (x := x) (y := dots) (hi := x.length) (free := pre.length) (l := List.range' pre.length ((joinD [w]).length + 1)) (l' := []) ?_
    · rw [List.append_nil] at h; rw [h]; rfl
    · intro i hi ⟨_, ha⟩
      rw [at_iff] at ha
      rw [List.mem_range'_1] at hi
      have hl : x.length = pre.length + w.length := by rw [e]; simp [joinD]
      have h3 := ha.1
      simp only [dots, List.length_cons, List.length_nil] at h3
      refine no_occ (pre := pre) (w := w) (r := []) (hw w (.head _)) hi.1 (by omega) ?_
      have e2 : x = pre ++ (w ++ []) := by rw [e]; simp [joinD]
      rw [← e2]; exact ha.2
  | w :: v :: ws, pre, x, _, hw, e => by
    have e1 : x = pre ++ (w ++ (dots ++ joinD (v :: ws))) := e
    have hl : x.length = pre.length + (w.length + (3 + (joinD (v :: ws)).length)) := by rw [e1]; simp [dots]; omega
    have hr : List.range' pre.length ((joinD (w :: v :: ws)).length + 1) = List.range' pre.length w.length ++ ((pre.length + w.length) :: ([pre.length + w.length + 1, pre.length + w.length + 2] ++ List.range' (pre.length + w.length + 3) ((joinD (v :: ws)).length + 1))) := by
      have e3 : (joinD (w :: v :: ws)).length + 1 = w.length + (3 + ((joinD (v :: ws)).length + 1)) := by simp [joinD, dots]; omega
      rw [e3, ← List.range'_append_1, ← List.range'_append_1]
      simp [List.range'_succ]
    rw [hr, occG_skip, occG, if_pos, occG_skip]
    · have ih := occG_join (ws := v :: ws) (pre := pre ++ w ++ dots) (x := x) (by simp) (fun u hu => hw u (.tail _ hu)) (by rw [e1]; simp)
      have e4 : (pre ++ w ++ dots).length = pre.length + w.length + 3 := by simp [dots]; omega
      rw [e4] at ih
      rw [cuts, ← ih]; rfl
    · intro i hi
      simp only [List.mem_cons, List.not_mem_nil, or_false] at hi
      have : dots.length = 3 := rfl
      omega
    · refine ⟨by omega, at_iff.mpr ⟨by have : dots.length = 3 := rfl; omega, ?_⟩⟩
      unfold Occ
      rw [e1, ← List.append_assoc, show pre.length + w.length = (pre ++ w).length by simp, List.drop_left]
      simp [dots]
    · intro i hi ⟨_, ha⟩
      rw [List.mem_range'_1] at hi
      rw [at_iff, e1] at ha
      exact no_occ (hw w (.head _)) hi.1 hi.2 ha.2
def partsFrom (x : List Nat) : Nat → List Nat → List (List Nat)
  | o, [] => [(x.take x.length).drop o]
  | o, c :: cs => (x.take c).drop o :: partsFrom x (c + 3) cs
theorem sub_S (x : List Nat) (i j : Nat) : strSub (S x) i j = S ((x.take j).drop i) := by
  unfold strSub S
  simp [List.drop_take, List.extract_eq_take_drop]
theorem parts_from (x : List Nat) : ∀ (cs : List Nat) (o : Nat), ((o :: cs.map (· + 3)).zip (cs ++ [(S x).length])).map (fun (i, j) => strSub (S x) i j) = (partsFrom x o cs).map S
  | [], o => by simp [partsFrom, sub_S]
  | c :: cs, o => by
    have ih := parts_from x cs (c + 3)
    rw [List.map_cons, List.cons_append, List.zip_cons_cons, List.map_cons, ih, partsFrom, List.map_cons, ← sub_S]
theorem parts_join : ∀ {ws : List (List Nat)} {pre x : List Nat}, ws ≠ [] → x = pre ++ joinD ws → partsFrom x pre.length (cuts pre.length ws) = ws
  | [], _, _, h, _ => absurd rfl h
  | [w], pre, x, _, e => by rw [cuts, partsFrom, List.take_length, e, joinD, List.drop_left]
  | w :: v :: ws, pre, x, _, e => by
    have ih := parts_join (ws := v :: ws) (pre := pre ++ w ++ dots) (x := x) (by simp) (by rw [e]; simp [joinD])
    have e4 : (pre ++ w ++ dots).length = pre.length + w.length + 3 := by simp [dots]; omega
    rw [e4] at ih
    rw [cuts, partsFrom, ih]
    congr 1
    rw [e, joinD, ← List.append_assoc, show pre.length + w.length = (pre ++ w).length by simp, List.take_left, List.drop_left]
theorem kind_S {x : List Nat} (h : ∀ c ∈ x, c < 256) : Str.strKind (S x) = 1 := by
  unfold Str.strKind
  rw [if_pos]
  simp only [S, List.all_toArray, List.all_eq_true, decide_eq_true_eq]
  exact h
theorem splits_join {ws : List (List Nat)} (h2 : 2 ≤ ws.length) (hw : ∀ w ∈ ws, 46 ∉ w) (hk : ∀ c ∈ joinD ws, c < 256) : SplitsTo (joinD ws) [46, 46, 46] ws := by
  have hne : ws ≠ [] := by intro e; subst e; simp at h2
  have hc : occurrences (S (joinD ws)) (S dots) 0 (S (joinD ws)).length ((S (joinD ws)).length + 1) = cuts 0 ws := by
    rw [occ_list]; exact occG_join (pre := []) hne hw rfl
  refine ⟨?_, ?_, ?_⟩
  · rw [kind_S hk, kind_S (by decide)]
    obtain ⟨w, v, r, rfl⟩ : ∃ w v r, ws = w :: v :: r := by
      match ws, h2 with
      | w :: v :: r, _ => exact ⟨w, v, r, rfl⟩
    simp [joinD, dots]; omega
  · show (occurrences _ (S dots) _ _ _).isEmpty = false
    rw [hc]
    match ws, h2 with
    | w :: v :: r, _ => rfl
  · show partsBetween _ (occurrences _ (S dots) _ _ _) (S dots).length = _
    rw [hc]
    show ((0 :: (cuts 0 ws).map (· + 3)).zip (cuts 0 ws ++ [(S (joinD ws)).length])).map (fun (i, j) => strSub (S (joinD ws)) i j) = _
    rw [parts_from]
    have := parts_join (pre := []) hne (x := joinD ws) rfl
    exact congrArg (List.map S) this
theorem find_join {ws : List (List Nat)} (h2 : 2 ≤ ws.length) : (findL (joinD ws) [46, 46, 46] 0 (joinD ws).length).isSome = true := by
  match ws, h2 with
  | w :: v :: r, _ =>
    refine findL_isSome.mpr ⟨w.length, Nat.zero_le _, by simp [joinD, dots], ?_⟩
    unfold Occ
    rw [joinD, List.drop_left]; rfl
theorem ltr_not46 {c : Nat} (h : Ltr c) : c ≠ 46 ∧ c ≠ 10 ∧ c ≠ 58 ∧ c < 256 := by rcases h with rfl | rfl | rfl | rfl <;> decide
-- the four shapes
def shape (f b : Bool) (p q : List Nat) : List (List Nat) := (if f then [] else [[]]) ++ [p, q] ++ (if b then [] else [[]])
theorem shape_want {ps : List (List Nat)} {i j : Nat} (hj : j < ps.length) : wantAt ps i j = joinD (shape (decide (i = 0)) (decide (j + 1 = ps.length)) (ps.getD i []) (ps.getD j [])) := by
  unfold wantAt shape
  by_cases h1 : i = 0 <;> by_cases h2 : j + 1 = ps.length
  · simp [h1, h2, joinD]
  · rw [if_neg (by omega), if_pos (by omega)]; simp [h1, h2, joinD]
  · rw [if_pos (by omega), if_neg (by omega)]; simp [h1, h2, joinD]
  · rw [if_pos (by omega), if_pos (by omega)]; simp [h1, h2, joinD]
theorem joinD_mem : ∀ {ws : List (List Nat)} {c : Nat}, c ∈ joinD ws → c = 46 ∨ ∃ w ∈ ws, c ∈ w
  | [], _, h => by cases h
  | [w], c, h => .inr ⟨w, .head _, h⟩
  | w :: v :: ws, c, h => by
    rcases List.mem_append.mp h with h | h
    · exact .inr ⟨w, .head _, h⟩
    rcases List.mem_append.mp h with h | h
    · left; simpa [dots] using h
    rcases joinD_mem h with h | ⟨u, hu, h⟩
    · exact .inl h
    · exact .inr ⟨u, .tail _ hu, h⟩
theorem shape_ok {f b : Bool} {p q : List Nat} (hp : ∀ c ∈ p, Ltr c) (hq : ∀ c ∈ q, Ltr c) : SplitsTo (joinD (shape f b p q)) [46, 46, 46] (shape f b p q) ∧ (findL (joinD (shape f b p q)) [46, 46, 46] 0 (joinD (shape f b p q)).length).isSome = true := by
  have h2 : 2 ≤ (shape f b p q).length := by cases f <;> cases b <;> simp [shape]
  have hm : ∀ w ∈ shape f b p q, ∀ c ∈ w, Ltr c := by
    intro w hw
    have : w = [] ∨ w = p ∨ w = q := by cases f <;> cases b <;> simp [shape] at hw <;> grind
    rcases this with rfl | rfl | rfl
    · intro c hc; cases hc
    · exact hp
    · exact hq
  refine ⟨splits_join h2 (fun w hw h => (ltr_not46 (hm w hw 46 h)).1 rfl) (fun c hc => ?_), find_join h2⟩
  rcases joinD_mem hc with rfl | ⟨w, hw, h⟩
  · decide
  · exact (ltr_not46 (hm w hw c h)).2.2.2
-- strip
theorem occ_one {x : List Nat} {c i : Nat} : Occ x [c] i ↔ x[i]? = some c := by
  unfold Occ
  constructor
  · intro h
    have h4 := congrArg (fun z => z[0]?) h
    simpa [List.getElem?_take, List.getElem?_drop] using h4
  · intro h
    obtain ⟨hi, e⟩ := List.getElem?_eq_some_iff.mp h
    rw [List.drop_eq_getElem_cons hi, e]; rfl
theorem find_at {u v : List Nat} {c hi : Nat} (hu : c ∉ u) (hh : u.length < hi) : findL (u ++ c :: v) [c] 0 hi = some u.length := by
  obtain ⟨j, h1, _, h3⟩ := findL_least (x := u ++ c :: v) (y := [c]) (lo := 0) (hi := hi) (i := u.length) (Nat.zero_le _) (by simp; omega) (occ_one.mpr (by simp))
  rw [h1]
  rcases Nat.lt_or_ge j u.length with h | h
  · have h4 := occ_one.mp (findL_some h1).2.2.1
    rw [List.getElem?_append_left h] at h4
    exact absurd (List.mem_of_getElem? h4) hu
  · congr 1; omega
theorem find_no {u v : List Nat} {c hi : Nat} (hu : c ∉ u) (hh : hi ≤ u.length) : findL (u ++ v) [c] 0 hi = none := by
  cases h : findL (u ++ v) [c] 0 hi with
  | none => rfl
  | some j =>
    have h1 := findL_some h
    have h4 := occ_one.mp h1.2.2.1
    have h5 := h1.2.1
    simp at h5
    rw [List.getElem?_append_left (by omega)] at h4
    exact absurd (List.mem_of_getElem? h4) hu
theorem last_no {u v : List Nat} {c hi : Nat} (hu : c ∉ u) (hh : hi ≤ u.length) : lastL (u ++ v) [c] 0 hi = none := by
  unfold lastL
  rw [List.find?_eq_none]
  intro j _ ha
  rw [at_iff] at ha
  have h4 := occ_one.mp ha.2
  have h5 := ha.1
  simp at h5
  rw [List.getElem?_append_left (by omega)] at h4
  exact absurd (List.mem_of_getElem? h4) hu
theorem last_at {u v r : List Nat} {c hi : Nat} (hv : c ∉ v) (hh : hi = u.length + 1 + v.length) : lastL (u ++ c :: (v ++ r)) [c] 0 hi = some u.length := by
  unfold lastL
  have e : List.range' 0 (hi + 1 - 0) = List.range' 0 u.length ++ (u.length :: List.range' (u.length + 1) (v.length + 1)) := by
    rw [show hi + 1 - 0 = u.length + (1 + (v.length + 1)) by omega, ← List.range'_append_1, ← List.range'_append_1]
    simp [List.range'_succ]
  rw [e, List.reverse_append, List.reverse_cons, List.append_assoc, List.find?_append, List.find?_eq_none.mpr]
  · rw [List.singleton_append, List.find?_cons_of_pos]
    · rfl
    · rw [at_iff]; exact ⟨by simp; omega, occ_one.mpr (by simp)⟩
  · intro j hj ha
    rw [List.mem_reverse, List.mem_range'_1] at hj
    rw [at_iff] at ha
    have h4 := occ_one.mp ha.2
    have h5 := ha.1
    simp at h5
    rw [List.getElem?_append_right (by omega), show j - u.length = (j - u.length - 1) + 1 by omega, List.getElem?_cons_succ, List.getElem?_append_left (by omega)] at h4
    exact absurd (List.mem_of_getElem? h4) hv
def orLen (o : Option Nat) (n : Nat) : Nat := match o with | some i => i | none => n
theorem intOf_or {o : Option Nat} {n : Nat} : (if 0 ≤ intOf o then intOf o else (n : Int)) = (orLen o n : Nat) := by
  cases o with
  | none => simp [intOf, orLen]
  | some i => simp [intOf, orLen]
theorem strip_e2 {x : List Nat} {n : Nat} {o1 o2 : Option Nat} (h1 : findL x [10] 0 x.length = o1) (h2 : findL x [58] 0 (min (orLen o1 x.length) x.length) = o2) (h3 : orLen o2 (orLen o1 x.length) = n) :
    stripF x = (x.take n).drop (if 0 ≤ intOf (lastL x [46] 0 (min n x.length)) then intOf (lastL x [46] 0 (min n x.length)) + 1 else 0).toNat := by
  unfold stripF
  simp only [h1, intOf_or, Int.toNat_natCast, h2, h3]
theorem strip_tail {y T : List Nat} (h10 : 10 ∉ y) (h58 : 58 ∉ y) (hT : T = [] ∨ T = [58] ∨ T = [58, 32, 98, 46, 65] ∨ T = [10, 98, 58, 32, 65]) :
    stripF (y ++ T) = y.drop (if 0 ≤ intOf (lastL (y ++ T) [46] 0 y.length) then intOf (lastL (y ++ T) [46] 0 y.length) + 1 else 0).toNat := by
  have key : stripF (y ++ T) = ((y ++ T).take y.length).drop (if 0 ≤ intOf (lastL (y ++ T) [46] 0 (min y.length (y ++ T).length)) then intOf (lastL (y ++ T) [46] 0 (min y.length (y ++ T).length)) + 1 else 0).toNat := by
    rcases hT with rfl | rfl | rfl | rfl
    · exact strip_e2 (o1 := none) (o2 := none) (find_no h10 (by simp)) (find_no h58 (by simp [orLen])) (by simp [orLen])
    · exact strip_e2 (o1 := none) (o2 := some y.length) (by have := find_no (u := y ++ [58]) (v := []) (c := 10) (hi := (y ++ [58]).length) (by simp [h10]) (Nat.le_refl _); simpa using this) (find_at h58 (by simp [orLen])) (by simp [orLen])
    · exact strip_e2 (o1 := none) (o2 := some y.length) (by have := find_no (u := y ++ [58, 32, 98, 46, 65]) (v := []) (c := 10) (hi := (y ++ [58, 32, 98, 46, 65]).length) (by simp [h10]) (Nat.le_refl _); simpa using this) (find_at h58 (by simp [orLen])) (by simp [orLen])
    · exact strip_e2 (o1 := some y.length) (o2 := none) (find_at h10 (by simp)) (find_no h58 (by simp [orLen])) (by simp [orLen])
  rw [key, List.take_left, Nat.min_eq_left (by simp)]
theorem strip_msg {name : List Nat} {number : Int} (hn : ∀ c ∈ name, Ltr c) : stripF (msgF name number) = name := by
  have h46 : 46 ∉ name := fun h => (ltr_not46 (hn _ h)).1 rfl
  have h10 : 10 ∉ name := fun h => (ltr_not46 (hn _ h)).2.1 rfl
  have h58 : 58 ∉ name := fun h => (ltr_not46 (hn _ h)).2.2.1 rfl
  unfold msgF
  have hT : (([[], [58], [58, 32, 98, 46, 65], [10, 98, 58, 32, 65]] : List (List Nat)).getD (number / 4000000 % 4).toNat []) = [] ∨ (([[], [58], [58, 32, 98, 46, 65], [10, 98, 58, 32, 65]] : List (List Nat)).getD (number / 4000000 % 4).toNat []) = [58] ∨ (([[], [58], [58, 32, 98, 46, 65], [10, 98, 58, 32, 65]] : List (List Nat)).getD (number / 4000000 % 4).toNat []) = [58, 32, 98, 46, 65] ∨ (([[], [58], [58, 32, 98, 46, 65], [10, 98, 58, 32, 65]] : List (List Nat)).getD (number / 4000000 % 4).toNat []) = [10, 98, 58, 32, 65] := by
    have : (number / 4000000 % 4).toNat = 0 ∨ (number / 4000000 % 4).toNat = 1 ∨ (number / 4000000 % 4).toNat = 2 ∨ (number / 4000000 % 4).toNat = 3 := by omega
    rcases this with e | e | e | e <;> rw [e] <;> simp
  generalize (([[], [58], [58, 32, 98, 46, 65], [10, 98, 58, 32, 65]] : List (List Nat)).getD (number / 4000000 % 4).toNat []) = T at hT
  have hP : (number / 1000000 % 4).toNat = 0 ∨ (number / 1000000 % 4).toNat = 1 ∨ (number / 1000000 % 4).toNat = 2 ∨ (number / 1000000 % 4).toNat = 3 := by omega
  rcases hP with e | e | e | e <;> rw [e]
  · show stripF ([] ++ name ++ T) = name
    rw [strip_tail (by simpa using h10) (by simpa using h58) hT, List.nil_append, last_no h46 (Nat.le_refl _)]
    simp [intOf]
  · show stripF ([109, 46] ++ name ++ T) = name
    rw [strip_tail (by simp [h10]) (by simp [h58]) hT, show [109, 46] ++ name ++ T = [109] ++ 46 :: (name ++ T) by simp, last_at h46 (by simp; omega)]
    simp [intOf]
  · show stripF ([109, 46, 110, 46] ++ name ++ T) = name
    rw [strip_tail (by simp [h10]) (by simp [h58]) hT, show [109, 46, 110, 46] ++ name ++ T = [109, 46, 110] ++ 46 :: (name ++ T) by simp, last_at h46 (by simp; omega)]
    simp [intOf]
  · show stripF ([46, 46] ++ name ++ T) = name
    rw [strip_tail (by simp [h10]) (by simp [h58]) hT, show [46, 46] ++ name ++ T = [46] ++ 46 :: (name ++ T) by simp, last_at h46 (by simp; omega)]
    simp [intOf]
end Mine
end
section
open PySem PySem.W PyProof.Rows PySem.Calls PySem.Builtin PySem.Builtin.Str
set_option Elab.async false
set_option maxRecDepth 100000
set_option maxHeartbeats 8000000
namespace Mine
section
variable {w : World} {A : Around} {s : Shared} {env : Env} {g : Heap} {L : Addr} {m : Str → Option Value} {nw : List (Addr × Obj)} {elt iter : PySem.Expr} {x : Str} {px : Pos} {ifs : List PySem.Expr} {scope : Scope} {cl : List (Str × Addr)} {pos : Pos}

theorem own_in {h : Heap} {C : Addr} {m₃ : Str → Option Value} (hn : h.Ns C m₃) : ∃ g₁, Own g₁ C h m₃ [] ∧ ∀ b o, b ≠ C → h.get? b = some o → g₁.get? b = some o :=
  ⟨hideAll h [C], ⟨hn, fun _ _ e => of_hideAll _ e, hideAll_none _ (.head _), fun _ hp => nomatch hp⟩, fun _ _ hb e => hideAll_get _ e fun q => hb (List.mem_singleton.mp q)⟩

def testsOf (ifs : List PySem.Expr) (cenv : Env) : Sem Bool := forIn ifs true fun c r => if r = true then do let ok ← isTrue c cenv (eval c cenv); pure (ForInStep.yield ok) else pure (ForInStep.yield r)

theorem nmC {E : Value → Shared → Prop} {z : Str} {zp : Pos} {c : Addr} {v : Value} {Q : Value → Shared → Prop} (hc : env.cells.lookup z = some c) (hv : s.heap.IsCell c (some v)) (h : Q v s)
    (hk : env.scope.kind = .function := by rfl) (hx : env.kindOf z = some .cell := by rfl) (hb : (z == ("__debug__" : Str)) = false := by decide) :
    wpAny (MP w) A (eval (.Name z zp) env) Q E s := wpAny_Name (wpAny_loadName_cell hk hx hc hv h) hb
theorem stC {E : Value → Shared → Prop} {z : Str} {c : Addr} {v : Value} {o : Obj} {v₀ : Option Value} {Q : Unit → Shared → Prop} (O : Own g L s.heap m ((c, o) :: nw)) (hne : ∀ p ∈ nw, p.1 ≠ c) (hd : o.data = .cell v₀) (hc : env.cells.lookup z = some c)
    (h : ∀ h' o', o'.data = .cell (some v) → Own g L h' m ((c, o') :: nw) → Q () { s with heap := h' })
    (hk : env.scope.kind = .function := by rfl) (hx : env.kindOf z = some .cell := by rfl) : wpAny (MP w) A (storeName env z v) Q E s := by
  refine wpAny_storeName_cell hk hx hc ⟨o, (O.nws _ (.head _)).1, hd⟩ fun h' hv hs => ?_
  obtain ⟨o', ho', hd'⟩ := hv
  exact h h' o' hd' (O.upd hne hs ho')
theorem cell_B {h : Heap} {c : Addr} {o : Obj} {v : Option Value} (O : Own g L h m nw) (hg : g.get? c = some o) (hd : o.data = .cell v) : h.IsCell c v := ⟨o, O.keep _ _ hg, hd⟩
theorem cell_N {h : Heap} {c : Addr} {o : Obj} {v : Option Value} (O : Own g L h m nw) (hm : (c, o) ∈ nw) (hd : o.data = .cell v) : h.IsCell c v := ⟨o, (O.nws _ hm).1, hd⟩
end
end Mine
end
section
open PySem PySem.W PyProof.Rows PySem.Calls PySem.Builtin PySem.Builtin.Str
set_option Elab.async false
set_option maxRecDepth 100000
set_option maxHeartbeats 8000000
namespace Mine
/-- a zip over two texts as it stands at B: the two iterators, the pair of them, the owned pair, the zip itself -/
structure ZP (h : Heap) (B : Nat) (x : Str) (t : Tok) (y : Str) (u : Tok) (f a b : Value) (k l : Nat) : Prop where
  it1 : h.IsStrIter B "str_ascii_iterator" x t k
  it2 : h.IsStrIter (B + 1) "str_ascii_iterator" y u l
  its : IsPair h (B + 2) (.ref B) (.ref (B + 1))
  own : IsPair h (B + 3) a b
  zip : IsZip h (B + 4) (B + 2) (B + 3) f
/-- all stays but the four places that a draw writes -/
def Calm (B : Nat) (h h' : Heap) : Prop := ∀ (c : Nat) o, c < B ∨ c = B + 2 ∨ B + 5 ≤ c → h.get? c = some o → h'.get? c = some o
section
variable {h h' h'' : Heap} {B : Nat} {x y : Str} {t u : Tok} {f f' a b c : Value} {k l : Nat}
theorem Calm.go (i : Nat) (hi : i < 5 ∧ i ≠ 2) (q : Calm B h h') (e : Heap.SameBut (B + i) h' h'') : Calm B h h'' :=
  fun c o hc he => e.extBut c o (by show @Ne Nat _ _; omega) (q c o hc he)
theorem ZP.rest (z : ZP h B x t y u f a b k l) (i : Nat) (e : Heap.SameBut (B + i) h h') :
    (i ≠ 0 → h'.IsStrIter B "str_ascii_iterator" x t k) ∧ (i ≠ 1 → h'.IsStrIter (B + 1) "str_ascii_iterator" y u l) ∧ (i ≠ 2 → IsPair h' (B + 2) (.ref B) (.ref (B + 1))) ∧ (i ≠ 3 → IsPair h' (B + 3) a b) ∧ (i ≠ 4 → IsZip h' (B + 4) (B + 2) (B + 3) f) := by
  refine ⟨fun hi => z.it1.extBut e.extBut ?_, fun hi => z.it2.extBut e.extBut ?_, fun hi => e.extBut _ _ ?_ z.its, fun hi => e.extBut _ _ ?_ z.own, fun hi => e.extBut _ _ ?_ z.zip⟩ <;>
    (show @Ne Nat _ _; omega)
theorem ZP.draw1 (z : ZP h B x t y u f a b k l) (e : Heap.SameBut B h h') (n : h'.IsStrIter B "str_ascii_iterator" x t (k + 1)) : ZP h' B x t y u f a b (k + 1) l :=
  have r := z.rest 0 e
  ⟨n, r.2.1 (by decide), r.2.2.1 (by decide), r.2.2.2.1 (by decide), r.2.2.2.2 (by decide)⟩
theorem ZP.draw2 (z : ZP h B x t y u f a b k l) (e : Heap.SameBut (B + 1) h h') (n : h'.IsStrIter (B + 1) "str_ascii_iterator" y u (l + 1)) : ZP h' B x t y u f a b k (l + 1) :=
  have r := z.rest 1 e
  ⟨r.1 (by decide), n, r.2.2.1 (by decide), r.2.2.2.1 (by decide), r.2.2.2.2 (by decide)⟩
theorem ZP.put (z : ZP h B x t y u f a b k l) (e : Heap.SameBut (B + 3) h h') {a' b' : Value} (n : IsPair h' (B + 3) a' b') : ZP h' B x t y u f a' b' k l :=
  have r := z.rest 3 e
  ⟨r.1 (by decide), r.2.1 (by decide), r.2.2.1 (by decide), n, r.2.2.2.2 (by decide)⟩
theorem ZP.flag (z : ZP h B x t y u f a b k l) (e : Heap.SameBut (B + 4) h h') (n : IsZip h' (B + 4) (B + 2) (B + 3) f') : ZP h' B x t y u f' a b k l :=
  have r := z.rest 4 e
  ⟨r.1 (by decide), r.2.1 (by decide), r.2.2.1 (by decide), r.2.2.2.1 (by decide), n⟩
theorem ZP.up (z : ZP h B x t y u f a b k l) (e : ∀ (c : Nat) o, c < B + 5 → h.get? c = some o → h'.get? c = some o) : ZP h' B x t y u f a b k l := by
  obtain ⟨⟨o, p1, q1⟩, ⟨o', p2, q2⟩, p3, p4, p5⟩ := z
  exact ⟨⟨o, e _ _ (by omega) p1, q1⟩, ⟨o', e _ _ (by omega) p2, q2⟩, e _ _ (by omega) p3, e _ _ (by omega) p4, e _ _ (by omega) p5⟩
end
section
variable {prog : Program} {w : World} {A : Around} {E : Value → Shared → Prop} {s : Shared} {B : Nat} {x y : Str} {t u : Tok} {a b : Value} {k : Nat}
theorem draw_item {i : Addr} {c : Nat} {f : Value → Sem Unit} {Q : Option Value → Shared → Prop} (hi : s.heap.IsStrIter i "str_ascii_iterator" x t k) (hc : x.cps[k]? = some c)
    (hQ : ∀ h', h'.IsStrIter i "str_ascii_iterator" x t (k + 1) → Heap.SameBut i s.heap h' → Q (some (.str ⟨#[c]⟩ s.toks)) { s with heap := h', toks := s.toks + 1 }) :
    wpAny (model prog w) A ((SmallTypes.nextOf (.ref i) >>= fun v => pure (some v)).onRaise f) Q E s :=
  wpAny_onRaise (wpAny_bind (wpAny_nextOf_ascii_item hi hc fun h' n e => wpAny_pure (hQ h' n e)))
theorem draw_end {i : Addr} {f : Value → Sem Unit} {Q : Option Value → Shared → Prop} (hh : A.handled = none) (hi : s.heap.IsStrIter i "str_ascii_iterator" x t k) (hc : x.cps[k]? = none)
    (hE : ∀ h' e, Heap.ExtBut i s.heap h' → (∃ o, h'.get? e = some o ∧ o.cls = .type "StopIteration") → wpAny (model prog w) A (f (.ref e)) (fun _ s' => E (.ref e) s') E { s with heap := h' }) :
    wpAny (model prog w) A ((SmallTypes.nextOf (.ref i) >>= fun v => pure (some v)).onRaise f) Q E s :=
  wpAny_onRaise (wpAny_bind (wpAny_nextOf_ascii_end hh hi hc fun h' e kp st => hE h' e kp st))
theorem zs_step {Q : Value → Shared → Prop} (hh : A.handled = none) (z : ZP s.heap B x t y u .none a b k k)
    (item : ∀ c d h', x.cps[k]? = some c → y.cps[k]? = some d → ZP h' B x t y u (rawInt s.heap.objs.size) (.str ⟨#[c]⟩ s.toks) (.str ⟨#[d]⟩ (s.toks + 1)) (k + 1) (k + 1) →
      IsPair h' s.heap.objs.size (.str ⟨#[c]⟩ s.toks) (.str ⟨#[d]⟩ (s.toks + 1)) → Calm B s.heap h' → Q (.ref s.heap.objs.size) { s with heap := h', toks := s.toks + 1 + 1 })
    (stop : ∀ h' e tk, x.cps[k]? = none ∨ y.cps[k]? = none → Calm B s.heap h' → (∃ o, h'.get? e = some o ∧ o.cls = .type "StopIteration") → E (.ref e) { s with heap := h', toks := tk }) :
    wpAny (model prog w) A (Builtin.«zip.__next__» ⟨[.ref (B + 4)], []⟩) (fun fin s' => ∃ v, fin = .done (.ret v) ∧ Q v s') E s := by
  have fl := fun (i : Nat) (v : Value) (hv : (#[.none, .bool false, .bool false, .ref (B + 2), .ref (B + 3)] : Array Value)[i]? = some v) (Q : Value → Shared → Prop) (h : Q v s) => wpAny_field (M := model prog w) (A := A) (E := E) (i := i) z.zip rfl hv h
  have rs := fun (Q : Option (Array Value) → Shared → Prop) (h : Q (some #[.ref B, .ref (B + 1)]) s) => wpAny_seqItems (M := model prog w) (A := A) (E := E) z.its rfl h
  have st := fun (Q : Unit → Shared → Prop) (h : ∀ h', IsZip h' (B + 4) (B + 2) (B + 3) .ellipsis → Heap.SameBut (B + 4) s.heap h' → Q () { s with heap := h' }) => wpAny_setField_rec (prog := prog) (w := w) (A := A) (E := E) z.zip (k := 0) (x := .ellipsis) (by simp) h
  unfold Builtin.«zip.__next__»
  wp_walk using fl 0 .none rfl, fl 2 (.bool false) rfl, fl 3 (.ref (B + 2)) rfl, fl 4 (.ref (B + 3)) rfl, rs, st
  intro h₁ n₁ e₁
  have z₁ : ZP h₁ B x t y u .ellipsis a b k k := z.flag e₁ n₁
  have q₁ : Calm B s.heap h₁ := Calm.go 4 (by decide) (fun _ _ _ e => e) e₁
  rw [show (#[.ref B, .ref (B + 1)] : Array Value).toList.zipIdx = [(.ref B, 0), (.ref (B + 1), 1)] from rfl]
  simp only [List.forIn_cons]
  refine wpAny_bind (wpAny_bind (wpAny_bind ?_))
  cases hx : x.cps[k]? with
  | none =>
    refine draw_end hh z₁.it1 hx fun h₂ p k₂ d₂ => ?_
    have y₂ : IsZip h₂ (B + 4) (B + 2) (B + 3) .ellipsis := k₂ _ _ (by show @Ne Nat _ _; omega) z₁.zip
    refine wpAny_setField_rec y₂ (by simp) fun h₃ _ e₃ => stop h₃ p _ (.inl hx) (fun c o hc e => ?_) ?_
    · exact e₃.extBut c o (by show @Ne Nat _ _; omega) (k₂ c o (by show @Ne Nat _ _; omega) (q₁ c o hc e))
    · obtain ⟨o, g, hcls⟩ := d₂
      refine ⟨o, e₃.extBut _ _ (fun r => ?_) g, hcls⟩
      rw [r, y₂] at g
      cases g
      simp at hcls
  | some cx =>
    refine draw_item z₁.it1 hx fun h₂ n₂ e₂ => ?_
    dsimp only at e₂ ⊢
    have z₂ := z₁.draw1 e₂ n₂
    have q₂ : Calm B s.heap h₂ := q₁.go 0 (by decide) e₂
    refine wpAny_bind (wpAny_seqItems z₂.own rfl (wpAny_bind (wpAny_updateSeq_pair z₂.own fun h₃ n₃ e₃ => wpAny_bind (wpAny_letGo (wpAny_pure ?_)))))
    have z₃ : ZP h₃ B x t y u .ellipsis (.str ⟨#[cx]⟩ s.toks) b (k + 1) k := z₂.put e₃ n₃
    have q₃ : Calm B s.heap h₃ := q₂.go 3 (by decide) e₃
    refine wpAny_bind (wpAny_bind ?_)
    cases hy : y.cps[k]? with
    | none =>
      refine draw_end hh z₃.it2 hy fun h₄ p k₄ d₄ => ?_
      have y₄ : IsZip h₄ (B + 4) (B + 2) (B + 3) .ellipsis := k₄ _ _ (by show @Ne Nat _ _; omega) z₃.zip
      refine wpAny_setField_rec y₄ (by simp) fun h₅ _ e₅ => stop h₅ p _ (.inr hy) (fun c o hc e => ?_) ?_
      · exact e₅.extBut c o (by show @Ne Nat _ _; omega) (k₄ c o (by show @Ne Nat _ _; omega) (q₃ c o hc e))
      · obtain ⟨o, g, hcls⟩ := d₄
        refine ⟨o, e₅.extBut _ _ (fun r => ?_) g, hcls⟩
        rw [r, y₄] at g
        cases g
        simp at hcls
    | some cy =>
      refine draw_item z₃.it2 hy fun h₄ n₄ e₄ => ?_
      dsimp only at e₄ ⊢
      have z₄ := z₃.draw2 e₄ n₄
      have q₄ : Calm B s.heap h₄ := q₃.go 1 (by decide) e₄
      refine wpAny_bind (wpAny_seqItems z₄.own rfl (wpAny_bind (wpAny_updateSeq_pair z₄.own fun h₅ n₅ e₅ => wpAny_bind (wpAny_letGo (wpAny_pure ?_)))))
      have z₅ : ZP h₅ B x t y u .ellipsis (.str ⟨#[cx]⟩ s.toks) (.str ⟨#[cy]⟩ (s.toks + 1)) (k + 1) (k + 1) := z₄.put e₅ n₅
      have q₅ : Calm B s.heap h₅ := q₄.go 3 (by decide) e₅
      have sz : h₅.objs.size = s.heap.objs.size := by rw [e₅.1, e₄.1, e₃.1, e₂.1, e₁.1]
      simp only [List.forIn_nil]
      refine wpAny_pure (wpAny_bind (wpAny_seqItems z₅.own rfl (wpAny_bind (wpAny_newTuple ?_))))
      have nw₆ := Heap.get?_push_size h₅ (o := { cls := .type "tuple", data := .seq #[.str ⟨#[cx]⟩ s.toks, .str ⟨#[cy]⟩ (s.toks + 1)] }) rfl
      have z₆ := z₅.up fun c o _ e => Heap.get?_push_of_some { cls := .type "tuple", data := .seq #[.str ⟨#[cx]⟩ s.toks, .str ⟨#[cy]⟩ (s.toks + 1)] } e
      have q₆ : Calm B s.heap _ := fun c o hc e => Heap.get?_push_of_some { cls := .type "tuple", data := .seq #[.str ⟨#[cx]⟩ s.toks, .str ⟨#[cy]⟩ (s.toks + 1)] } (q₅ c o hc e)
      have ne : s.heap.objs.size ≠ B + 4 := fun r => Nat.lt_irrefl _ (r ▸ Heap.lt_size z.zip)
      dsimp only
      rw [sz] at nw₆ ⊢
      unfold SmallTypes.ownedTupleHandOut
      refine wpAny_bind (wpAny_bind (wpAny_setField_rec z₆.zip (by simp) fun h₇ n₇ e₇ => wpAny_setField_rec n₇ (by simp) fun h₈ n₈ e₈ => wpAny_pure ⟨_, rfl, item cx cy h₈ hx hy ?_ ?_ ?_⟩))
      · exact ((z₆.flag e₇ n₇).flag e₈ n₈)
      · exact e₈.extBut _ _ ne (e₇.extBut _ _ ne nw₆)
      · exact (q₆.go 4 (by decide) e₇).go 4 (by decide) e₈
end
section
variable {prog : Program} {w : World} {A : Around} {E : Value → Shared → Prop} {s : Shared} {B : Nat} {x y : Str} {t u : Tok} {a b : Value} {k : Nat}
/-- one draw out of a zip over two texts: a pair while both have a sign, else nothing -/
theorem zs_next {Q : Option Value → Shared → Prop} (hh : A.handled = none) (z : ZP s.heap B x t y u .none a b k k)
    (item : ∀ c d h', x.cps[k]? = some c → y.cps[k]? = some d → ZP h' B x t y u (rawInt s.heap.objs.size) (.str ⟨#[c]⟩ s.toks) (.str ⟨#[d]⟩ (s.toks + 1)) (k + 1) (k + 1) →
      IsPair h' s.heap.objs.size (.str ⟨#[c]⟩ s.toks) (.str ⟨#[d]⟩ (s.toks + 1)) → Calm B s.heap h' → Q (some (.ref s.heap.objs.size)) { s with heap := h', toks := s.toks + 1 + 1 })
    (stop : ∀ h' tk, x.cps[k]? = none ∨ y.cps[k]? = none → Calm B s.heap h' → Q none { s with heap := h', toks := tk }) : wpAny (model prog w) A (pyNext (.ref (B + 4))) Q E s := by
  have ty : s.TypeIs (.ref (B + 4)) "zip" := ⟨_, z.zip, rfl⟩
  unfold pyNext
  refine wpAny_bind (wpAny_attempt (wpAny_callSpecial?_slot (name := Str.ofString "__next__") ty F.slot_zip_next ?_))
  refine wpAny_call_entry F.slot_zip_next ty F.entry_zip_next (zs_step hh z (fun c d h' hx hy z' n q => wpAny_pure (item c d h' hx hy z' n q)) fun h' e tk hn q st => ?_) (F.args_zip_next_1 _)
  obtain ⟨o, g, hcls⟩ := st
  exact wpAny_bind (wpAny_isInstance (b := true) ⟨o, g, hcls⟩ isSubtype_stop (wpAny_pure (stop h' tk hn q)))
end
/-- objects laid one behind the other at a heap's end -/
def laid (h : Heap) : List Obj → Heap
  | [] => h
  | o :: r => laid (h.push o) r
theorem laid_old {h : Heap} {c : Addr} {o : Obj} (e : h.get? c = some o) : ∀ os, (laid h os).get? c = some o
  | [] => e
  | p :: r => laid_old (h := h.push p) (Heap.get?_push_of_some _ e) r
theorem laid_size : ∀ (os : List Obj) (h : Heap), (laid h os).objs.size = h.objs.size + os.length
  | [], _ => rfl
  | p :: r, h => by rw [laid, laid_size r, Heap.size_push, List.length_cons]; omega
theorem laid_new (os : List Obj) : ∀ (h : Heap) (i : Nat) (o : Obj), os[i]? = some o → o.isFreed = false → (laid h os).get? (h.objs.size + i) = some o := by
  induction os with
  | nil => intro h i o e; rw [List.getElem?_nil] at e; cases e
  | cons p r ih =>
    intro h i o e hf
    cases i with
    | zero =>
      rw [List.getElem?_cons_zero] at e
      cases e
      exact laid_old (Heap.get?_push_size h hf) r
    | succ i =>
      rw [List.getElem?_cons_succ] at e
      have q := ih (h.push p) i o e hf
      rw [Heap.size_push, Nat.add_assoc, Nat.add_comm 1 i] at q
      exact q
/-- what zip(x, y) lays: the iterators, their pair, the pair to be handed out, the zip -/
def zipObjs (B : Nat) (x : Str) (t : Tok) (y : Str) (u : Tok) : List Obj :=
  [{ cls := .type "str_ascii_iterator", data := .fields #[.str x t, .int 0 0] }, { cls := .type "str_ascii_iterator", data := .fields #[.str y u, .int 0 0] },
   { cls := .type "tuple", data := .seq #[.ref B, .ref (B + 1)] }, { cls := .type "tuple", data := .seq #[.none, .none] },
   { cls := .type "zip", data := .fields #[.none, .bool false, .bool false, .ref (B + 2), .ref (B + 3)] }]
theorem zs_new (x : Str) (t : Tok) (y : Str) (u : Tok) (hx : x.cps.all (· < 128) = true) (hy : y.cps.all (· < 128) = true) :
    Meets (Builtin.«zip.__new__» ⟨[.type "zip", .str x t, .str y u], []⟩) (fun _ R s => ∀ v h', v = s.heap.objs.size + 4 → h' = laid s.heap (zipObjs s.heap.objs.size x t y u) → R (.ok (.ret (.ref v))) { s with heap := h' }) :=
  .of_wp fun prog w A R s h => by
    obtain ⟨hp, g, d, tk, os⟩ := s
    have known := sub_zip
    wp_walk using wpAny_pyIter_ascii hx, wpAny_pyIter_ascii hy
    refine ⟨_, rfl, h _ _ ?_ ?_⟩
    · dsimp only
      simp only [Heap.size_push]
    · dsimp only [laid, zipObjs]
      simp [Heap.size_push, SmallTypes.ownedTupleFields, Nat.add_assoc]
def ZS (h : Heap) (B : Nat) (x : Str) (t : Tok) (y : Str) (u : Tok) (k : Nat) : Prop := ∃ a b, ZP h B x t y u .none a b k k
theorem zip_S {w : World} {A : Around} {E : Value → Shared → Prop} {s : Shared} {x y : Str} {t u : Tok} {Q : Value → Shared → Prop} (hx : x.cps.all (· < 128) = true) (hy : y.cps.all (· < 128) = true)
    (h : ∀ h', ZS h' s.heap.objs.size x t y u 0 → h'.objs.size = s.heap.objs.size + 5 → Stay s.heap h' → Q (.ref (s.heap.objs.size + 4)) { s with heap := h' }) :
    wpAny (MP w) A (call (.type "zip") [.str x t, .str y u]) Q E s := by
  refine callType_new F.called_zip (by decide) (F.typeCall_zip_2 _ _) (F.newCall_zip_2 _ _) (fun obj => F.args_object_init_3 obj _ _) F.entry_zip_new (zs_new x t y u hx hy) ?_
  rintro _ _ rfl rfl
  have at' := laid_new (zipObjs s.heap.objs.size x t y u) s.heap
  have last := at' 4 _ rfl rfl
  exact ⟨⟨_, last, rfl⟩, h _ ⟨.none, .none, ⟨_, at' 0 _ rfl rfl, rfl, rfl⟩, ⟨_, at' 1 _ rfl rfl, rfl, rfl⟩, at' 2 _ rfl rfl, at' 3 _ rfl rfl, last⟩ (laid_size _ _) fun c o e => laid_old e _⟩
end Mine
end
section
open PySem PySem.W PyProof.Rows PySem.Calls PySem.Builtin PySem.Builtin.Str
set_option Elab.async false
set_option maxRecDepth 100000
set_option maxHeartbeats 8000000
namespace Mine
local macro_rules | `(tactic| walk_at "ao") => `(tactic| first | omega | (show @Ne Nat _ _; omega) | (show @LT.lt Nat _ _ _; omega))
section
variable {w : World} {A : Around} {s : Shared} {env : Env} {g : Heap} {L : Addr} {m : Str → Option Value} {nw : List (Addr × Obj)} {elt iter : PySem.Expr} {a b : Str} {pa pb tp : Pos} {kk : Nat} {scope : Scope} {cl : List (Str × Addr)} {pos : Pos}
def ZipHere (w : World) (A : Around) (env : Env) (elt : PySem.Expr) (a b : Str) (pa pb tp : Pos) (kk : Nat) (iter : PySem.Expr) (scope : Scope) (cl : List (Str × Addr)) (pos : Pos) (Q : Value → Shared → Prop) (xv : Value) (s₁ : Shared) : Prop :=
  wpAny (MP w) A (pyIter xv) (fun it s₂ => wpAny (MP w) A (newList []) (fun acc s₃ =>
      wpAny (MP w) A (newFunctionEnv scope env.globals cl [] env.qual none .none (some env)) (fun cenv s₄ =>
        codeAny (MP w) A (.compStart (.ListComp elt [⟨.Tuple [.Name a pa, .Name b pb] kk tp, iter, [], 0⟩] scope pos) 0 it acc { cenv with scope := relabel scope env }) (compPost (MP w) A NoE none Q acc cenv.locals) s₄) NoE s₃) NoE s₂) NoE s₁
theorem zlc_here {Q : Value → Shared → Prop} (hclos : closureFor scope env = pure cl) (hkind : scope.kind = .function)
    (hnames : ∀ y ∈ scope.names, y.2 = .local → scope.names.lookup y.1 = some .local)
    (h : wpAny (MP w) A (eval iter env) (ZipHere w A env elt a b pa pb tp kk iter scope cl pos Q) NoE s) (hs : ∀ x, foldedSetIterable iter env x = pure x := by intro _; rfl) :
    wpAny (MP w) A (eval (.ListComp elt [⟨.Tuple [.Name a pa, .Name b pb] kk tp, iter, [], 0⟩] scope pos) env) Q NoE s := by
  rw [eval_ListComp]
  exact wpAny_comprehension_free (use := none) rfl hs hclos hkind hnames h

def TEnd2 (g₁ : Heap) (C : Addr) (m₃ : Str → Option Value) (s₃ : Shared) (F : Value → Prop) (y : Value) (s₄ : Shared) : Prop := F y ∧ ∃ h' tk, s₄ = { s₃ with heap := h', toks := tk } ∧ Own g₁ C h' m₃ []
theorem TEnd2.mk {g₁ : Heap} {C : Addr} {m₃ : Str → Option Value} {s₃ : Shared} {F : Value → Prop} {y : Value} {h' : Heap} {tk : Nat} (O : Own g₁ C h' m₃ []) (f : F y) : TEnd2 g₁ C m₃ s₃ F y { s₃ with heap := h', toks := tk } := ⟨f, h', tk, rfl, O⟩
def Turn2 (w : World) (A : Around) (env : Env) (scope : Scope) (cl : List (Str × Addr)) (a b : Str) (g : Heap) (nw : List (Addr × Obj)) (elt : PySem.Expr) (v u : Value) (F : Value → Prop) : Prop :=
  ∀ C s₃ g₁ m₃, Stay g g₁ → (∀ q ∈ nw, g₁.get? q.1 = some q.2) → Own g₁ C s₃.heap m₃ [] → m₃ a = some v → m₃ b = some u → wpAny (MP w) A (eval elt (compEnvC scope cl C env)) (TEnd2 g₁ C m₃ s₃ F) NoE s₃

/-- the ground of a comprehension: its empty list D and its frame D + 1 lie behind all that stood -/
theorem comp_ground {E : Value → Shared → Prop} {K : Value → Env → Shared → Prop} (hcell : ∀ y ∈ scope.names, y.2 ≠ .cell) (hkind : scope.kind = .function)
    (go : ∀ (D : Nat) h' tk c, D = s.heap.objs.size → ({ c with scope := relabel scope env } : Env) = compEnvC scope cl (D + 1) env → c.locals = D + 1 → h'.Ns (D + 1) (fun _ => none) → h'.get? D = some (lstN [] 0) → Stay s.heap h' → K (.ref D) c { s with heap := h', toks := tk }) :
    wpAny (MP w) A (newList []) (fun acc s₃ => wpAny (MP w) A (newFunctionEnv scope env.globals cl [] env.qual none .none (some env)) (K acc) E s₃) E s := by
  refine wpAny_newObj_type (wpAny_newFunctionEnv hcell (fun _ hy => nomatch hy) (fun h' ns sb => ?_) hkind)
  dsimp only at ns sb ⊢
  rw [Heap.size_push] at ns sb ⊢
  have far : ∀ {c : Nat} {o}, c < s.heap.objs.size + 1 → Heap.get? _ c = some o → h'.get? c = some o := fun hc e => sb.extBut _ _ (Nat.ne_of_lt hc) (Heap.get?_push_of_some _ e)
  exact go _ h' _ _ rfl rfl rfl ns (far (Nat.lt_succ_self _) (Heap.get?_push_size _ rfl)) fun c o e => far (Nat.lt_succ_of_lt (Heap.lt_size e)) (Heap.get?_push_of_some _ e)
theorem sign_at {x : List Nat} {i c : Nat} (e : (S x).cps[i]? = some c) : x[i]? = some c := by simpa [S] using e
theorem sign_no {x : List Nat} {i : Nat} (e : (S x).cps[i]? = none) : x.length ≤ i := by simpa [S] using e

theorem comp_zip {Q : Value → Shared → Prop} {G : Heap} {x y : List Nat} {t u : Tok} (f : Nat → Nat → Int) (hh : A.handled = none) (O : Own g L G m nw) (hZ : ZS s.heap G.objs.size (S x) t (S y) u 0) (hsz : s.heap.objs.size = G.objs.size + 5) (hst : Stay G s.heap)
    (hlen : x.length ≤ 1000) (hcell : ∀ y ∈ scope.names, y.2 ≠ .cell) (hkind : scope.kind = .function) (hxa : scope.names.lookup a = some .local) (hxb : scope.names.lookup b = some .local) (hab : ¬ a = b)
    (turn : ∀ (c d : Nat) t u, c ∈ x → d ∈ y → Turn2 w A env scope cl a b g nw elt (.str (S [c]) t) (.str (S [d]) u) (fun v => ∃ t, v = .int (f c d) t))
    (fin : ∀ D h tk ys k, (∀ q ∈ nw, q.1 ≠ D) → Own g L h m ((D, lstN ys k) :: nw) → IntsAre ys (List.zipWith f x y) → Q (.ref D) { s with heap := h, toks := tk }) :
    ZipHere w A env elt a b pa pb tp kk iter scope cl pos Q (.ref (G.objs.size + 4)) s := by
  unfold ZipHere
  generalize hB : G.objs.size = B at *
  have below : ∀ {b : Nat} {o}, G.get? b = some o → b < B := fun e => hB ▸ Heap.lt_size e
  obtain ⟨z₀, z₀', hZ⟩ := hZ
  refine wpAny_pyIter_zip hZ.zip (comp_ground hcell hkind fun D h₁ tk₁ c hD hc hl hn hacc old => ?_)
  rw [hsz] at hD
  subst hD
  show codeAny (MP w) A (.compStart (.ListComp elt [⟨.Tuple [.Name a pa, .Name b pb] kk tp, iter, [], 0⟩] scope pos) 0 (.ref (B + 4)) (.ref (B + 5)) { c with scope := relabel scope env }) (compPost (MP w) A NoE none Q (.ref (B + 5)) c.locals) _
  rw [hc, hl]
  clear hc hl c
  have loop : codeAny (MP w) A (.compLoop (.ListComp elt [⟨.Tuple [.Name a pa, .Name b pb] kk tp, iter, [], 0⟩] scope pos) 0 (.ref (B + 4)) (.ref (B + 5)) (compEnvC scope cl (B + 6) env)) (compPost (MP w) A NoE none Q (.ref (B + 5)) (B + 6)) { s with heap := h₁, toks := tk₁ } := by
    refine kcp_loop (fun k s' => ∃ h' tk i ys n m', s' = { s with heap := h', toks := tk } ∧ i ≤ (List.zipWith f x y).length ∧ k = (List.zipWith f x y).length + 1 - i ∧ ZS h' B (S x) t (S y) u i ∧ Stay G h' ∧ h'.Ns (B + 6) m' ∧
        h'.get? (B + 5) = some (lstN ys n) ∧ IntsAre ys ((List.zipWith f x y).take i)) ?_ ((List.zipWith f x y).length + 1)
      ⟨h₁, _, 0, [], 0, _, rfl, Nat.zero_le _, rfl, ⟨_, _, hZ.up fun c o _ e => old c o e⟩, fun c o e => old c o (hst c o e), hn, hacc, .nil⟩
    rintro k s' ⟨h', tk, i, ys, n, m', rfl, hi, rfl, ⟨za, zb, z⟩, hG, hns, hD, hI⟩
    refine zs_next hh z (fun p q h₂ hp hq z₂ new₂ calm₂ => ?_) fun h₂ tk₂ hend calm₂ => ?_
    · obtain ⟨hxi, rfl⟩ := List.getElem?_eq_some_iff.mp (sign_at hp)
      obtain ⟨hyi, rfl⟩ := List.getElem?_eq_some_iff.mp (sign_at hq)
      have hl : i + 1 ≤ (List.zipWith f x y).length := by rw [List.length_zipWith]; omega
      dsimp only at z₂ new₂ calm₂ ⊢
      have top : B + 6 < h'.objs.size := hns.lt
      refine wpAny_letOwnedTupleGo_zip z₂.zip fun h₃ y₃ e₃ => ?_
      have z₃ := z₂.flag e₃ y₃
      have calm₃ := calm₂.go 4 (by decide) e₃
      have pair₃ : h₃.IsTuple h'.objs.size #[.str (S [x[i]]) tk, .str (S [y[i]]) (tk + 1)] := ⟨_, e₃.extBut _ _ (by walk_at "ao") new₂, rfl, _, rfl⟩
      refine kcp_assign (env := compEnvC scope cl (B + 6) env) hh pair₃ (lookup_relabel_local hxa) (lookup_relabel_local hxb) (by simp [compEnvC, relabel, hkind]) (hns.at' fun o e => calm₃ _ o (.inr (.inr (by omega))) e) fun h₄ tk₄ hn₄ up₄ => ?_
      have calm₄ : ∀ (c : Nat) o, c < B ∨ c = B + 5 → h'.get? c = some o → h₄.get? c = some o := fun c o hc e => up₄ c o (by show c ≠ B + 6; omega) (calm₃ c o (by omega) e)
      have z₄ := z₃.up (h' := h₄) fun c o hc e => up₄ c o (by show c ≠ B + 6; omega) e
      have hG₄ : Stay G h₄ := fun c o e => calm₄ c o (.inl (below e)) (hG c o e)
      obtain ⟨g₁, O₁, k₁⟩ := own_in hn₄
      have st₁ : Stay G g₁ := fun c o e => k₁ c o (by have := below e; show c ≠ B + 6; walk_at "ao") (hG₄ c o e)
      refine wpAny_noRaise (wpAny_mono (turn x[i] y[i] tk (tk + 1) (by simp) (by simp) (B + 6) _ g₁ _ (O.keep.tr st₁) (fun q hq => st₁ _ _ (O.nws q hq).1) O₁ (by simp [hab]) (by simp)) (fun v s₅ h₅ => ?_) fun _ _ e => e)
      obtain ⟨⟨tv, rfl⟩, h₅, tk₅, rfl, O₅⟩ := h₅
      have up₅ : ∀ (c : Nat) o, c ≠ B + 6 → h₄.get? c = some o → h₅.get? c = some o := fun c o hc e => O₅.keep c o (k₁ c o hc e)
      have room : ys.toArray.size ≤ sizeLine := by rw [List.size_toArray, sizeLine_eq, hI.length, List.length_take, List.length_zipWith]; omega
      refine append_at (hsz := room) (up₅ _ _ (by omega) (calm₄ _ _ (.inr rfl) hD)) fun h₆ e₆ hD₆ => ?_
      have up₆ : ∀ (c : Nat) o, c < B + 5 → h₄.get? c = some o → h₆.get? c = some o := fun c o hc e => e₆.extBut c o (by walk_at "ao") (up₅ c o (by omega) e)
      refine ⟨(List.zipWith f x y).length + 1 - (i + 1), by omega, h₆, _, i + 1, ys ++ [.int (f x[i] y[i]) tv], n + 1, _, rfl, hl, rfl, ⟨_, _, z₄.up up₆⟩, fun c o e => up₆ c o (by have := below e; omega) (hG₄ c o e), O₅.ns.sameBut e₆ (by show B + 6 ≠ B + 5; walk_at "ao"), by rw [hD₆]; simp, ?_⟩
      rw [show (List.zipWith f x y).take (i + 1) = (List.zipWith f x y).take i ++ [f x[i] y[i]] by rw [List.take_add_one, List.getElem?_zipWith, List.getElem?_eq_getElem hxi, List.getElem?_eq_getElem hyi]; rfl]
      exact hI.append (.cons _ _ .nil)
    · have hin : i = (List.zipWith f x y).length := by
        rw [List.length_zipWith] at hi ⊢
        rcases hend with e | e
        · have := sign_no e; omega
        · have := sign_no e; omega
      have hD₂ := calm₂ (B + 5) _ (.inr (.inr (Nat.le_refl _))) hD
      refine ⟨m', hns.at' fun o e => calm₂ _ o (.inr (.inr (by omega))) e, fun h₃ e₃ => ?_⟩
      have hD₃ := e₃.extBut _ _ (by show B + 5 ≠ B + 6; walk_at "ao") hD₂
      have hG₃ : Stay G h₃ := fun c o e => e₃.extBut _ _ (by have := below e; walk_at "ao") (calm₂ c o (.inl (below e)) (hG c o e))
      have O₃ := O.stay hG₃
      refine fin (B + 5) h₃ tk₂ ys n (fun q hq => by have := below (O.nws q hq).1; walk_at "ao") ⟨O₃.ns, O₃.keep, O.gL, fun p hp => ?_⟩ (by rw [hin, List.take_length] at hI; exact hI)
      rcases List.mem_cons.mp hp with rfl | hp
      · refine ⟨hD₃, ?_, ?_⟩
        · obtain ⟨o, _, _, e, _⟩ := O.ns
          have := below e
          show B + 5 ≠ L; walk_at "ao"
        · cases e : g.get? (B + 5) with
          | none => rfl
          | some o => have := below (O.keep _ _ e); walk_at "ao"
      · exact O₃.nws p hp
  exact codeAny_compStart_list loop (wpAny_pyIter_zip (hZ.up fun c o _ e => old c o e).zip loop)
end
end Mine
end
section
open PySem PySem.W PyProof.Rows PySem.Calls PySem.Builtin PySem.Builtin.Str
set_option Elab.async false
set_option maxRecDepth 100000
set_option maxHeartbeats 8000000
namespace Mine
theorem enterC {w : World} {A : Around} {s : Shared}
    {name qual : Str} {params : Arguments} {body : List Stmt} {scope : Scope} {dV kV doc pm cdv ct oc : Value} {an od : Option Addr} {osl : Array (Option Value)} {f : Addr} {vs : List Value} (binds : List (Str × Value))
    {Q E : Value → Shared → Prop}
    (X : Amb w s.heap)
    (ho : (hd.heap_39 w.params).lookup f = some ⟨oc, od, .func (fnOf name qual params body scope dV kV doc pm an cdv ct), osl⟩) (hcd : codeIn (hd.heap_39 w.params) cdv qual = true) (hroom : A.depth < recursionLimit)
    (hbind : bindArgs (fnOf name qual params body scope dV kV doc pm an cdv ct) ⟨vs, []⟩ = pure binds)
    (hkind : ∀ n, ∀ x ∈ binds, scope.names.lookup x.1 = some .local ∨ (scope.names.lookup x.1 = some .cell ∧ ((cellsFrom n scope.names []).lookup x.1).isSome = true))
    (hnd : ((cellsFrom 0 scope.names []).map (·.1)).Nodup)
    (hco : scope.isCoroutine = false) (hgen : scope.isGenerator = false) (hk : scope.kind = .function)
    (h : ∀ g L h₁ tk cells, g = s.heap → Own g L h₁ (bindL (envOfC qual scope L f cdv).kindOf binds fun _ => none) cells → CellsAre (bindC (envOfC qual scope L f cdv).kindOf binds fun _ => none) (cellsFrom (L + 1) scope.names []) cells → Amb w g →
      wpAny (MP w) (A.deeper (envOfC qual scope L f cdv)) (execs body (envOfC qual scope L f cdv))
        (fun fl s' => Q (match fl with | .ret v => v | _ => .none) s') NoE { s with heap := h₁, toks := tk }) :
    wpAny (MP w) A (call (.ref f) vs) Q E s := by
  obtain ⟨_, _, _, top⟩ := X.T
  have keys : ∀ L, ((cellsFrom (L + 1) scope.names []).map (·.1)).Nodup := fun L => (cellsFrom_names scope.names 0 (L + 1) [] [] rfl).symm ▸ hnd
  apply wpAny_call
  apply codeAny_call_function (fd := fnOf name qual params body scope dV kV doc pm an cdv ct) hroom (X.X _ _ ho) rfl hco hgen rfl (codeRec_of X.X hcd)
  apply BindsTo.of_eq hbind
  apply wpAny_newFunctionEnv_cells hk (hkind _)
  rintro _ rfl s₁ made
  obtain ⟨h₁, tk, rfl, _⟩ := made.done
  have kept : Stay s.heap h₁ := made.toInCall.keep
  have lay := Cl.news (h₀ := s.heap) (Nat.le_refl s.heap.objs.size) (h := h₁) fun n c hm => ⟨made.cell n c (lookup_of_mem_nodup (keys _) hm), made.above n c hm⟩
  obtain ⟨cells, own, are⟩ := lay
  have O : Own s.heap s.heap.objs.size h₁ _ cells := ⟨made.toInCall.ns, kept, get_none (Nat.le_refl _), own⟩
  refine ⟨top.nolimit.keeps kept, codeAny_func (wpAny_mono (h s.heap _ h₁ tk cells rfl O are X) (fun _ _ r => r) fun _ _ r => r.elim)⟩
/-- all that stands in a heap beside the frame, written out -/
def beside (h : Heap) (L : Addr) : List (Addr × Obj) := (List.range h.objs.size).filterMap fun a => if a = L then none else (h.get? a).map fun o => (a, o)
theorem mem_beside {h : Heap} {L : Addr} {p : Addr × Obj} : p ∈ beside h L ↔ p.1 ≠ L ∧ h.get? p.1 = some p.2 := by
  obtain ⟨a, o⟩ := p
  constructor
  · intro hm
    obtain ⟨c, _, e⟩ := List.mem_filterMap.mp hm
    split at e
    · cases e
    · rename_i hc
      obtain ⟨q, hq, e⟩ := Option.map_eq_some_iff.mp e
      cases e
      exact ⟨hc, hq⟩
  · rintro ⟨hne, e⟩
    refine List.mem_filterMap.mpr ⟨a, List.mem_range.mpr (Heap.lt_size e), ?_⟩
    have hne : a ≠ L := hne
    rw [if_neg hne]
    exact Option.map_eq_some_iff.mpr ⟨o, e, rfl⟩
/-- a rule of the library that speaks of a frame and a ledger, used over an Own: the base is the empty heap, the ledger is all that stands -/
theorem Own.lend {g h : Heap} {L : Addr} {m : Str → Option Value} {nw : List (Addr × Obj)} (O : Own g L h m nw) :
    Fr {} L h m ∧ News {} L h (beside h L) ∧ ∀ h', Fr {} L h' m → News {} L h' (beside h L) → Own g L h' m nw := by
  have empty : ∀ a, Heap.get? {} a = none := fun a => get_none (Nat.zero_le a)
  refine ⟨⟨O.ns, fun b o e => (by rw [empty] at e; cases e), Nat.zero_le _⟩, fun p hp => ⟨(mem_beside.mp hp).2, (mem_beside.mp hp).1, empty _⟩, fun h' F N => ?_⟩
  have kept : ∀ b o, b ≠ L → h.get? b = some o → h'.get? b = some o := fun b o hb e => (N (b, o) (mem_beside.mpr ⟨hb, e⟩)).1
  exact ⟨F.ns, fun b o e => kept b o (fun q => by rw [q, O.gL] at e; cases e) (O.keep b o e), O.gL, fun p hp => ⟨kept _ _ (O.nws p hp).2.1 (O.nws p hp).1, (O.nws p hp).2⟩⟩
section
variable {w : World} {A : Around} {E : Value → Shared → Prop} {s : Shared} {g : Heap} {L l : Addr} {m : Str → Option Value} {nw : List (Addr × Obj)} {Q : Value → Shared → Prop} {vs : List Value} {ns : List Int}
theorem sumO (O : Own g L s.heap m nw) (hh : A.handled = none) (hl : s.heap.IsList l vs.toArray) (hi : IntsAre vs ns)
    (h : ∀ t' h' tk, Own g L h' m nw → Q (.int ns.sum t') { s with heap := h', toks := tk }) : wpAny (MP w) A (call (.builtin "sum") [.ref l]) Q E s :=
  LSm.sum_ints O.lend.1 O.lend.2.1 hh hl hi fun h' tk t' F N => h t' h' tk (O.lend.2.2 h' F N)
theorem minLO (O : Own g L s.heap m nw) (hh : A.handled = none) (hl : s.heap.IsList l vs.toArray) (hi : IntsAre vs ns) (hne : 0 < ns.length)
    (h : ∀ M (t : Tok) h' tk, Own g L h' m nw → M ∈ ns → (∀ a, a ∈ ns → M ≤ a) → Q (.int M t) { s with heap := h', toks := tk }) : wpAny (MP w) A (call (.builtin "min") [.ref l]) Q E s :=
  min_list_N hh O.lend.1 O.lend.2.1 hl hi hne fun h' M t tk F N => h M t h' tk (O.lend.2.2 h' F N)
end
end Mine
end
section
open PySem PySem.W PyProof.Rows PySem.Calls PySem.Builtin PySem.Builtin.Str
set_option Elab.async false
set_option maxRecDepth 100000
set_option maxHeartbeats 8000000
namespace Mine
theorem asg2C {w : World} {A : Around} {E : Value → Shared → Prop} {s : Shared} {env : Env} {g : Heap} {L : Addr} {m : Str → Option Value} {a b : Str} {pa pb tp : Pos} {kk : Nat} {Q : Unit → Shared → Prop} {x y : Value} {T c : Addr} {o : Obj} {v₀ : Option Value}
    (O : Own g L s.heap m [(T, { cls := .type "tuple", data := .seq #[x, y] }), (c, o)]) (hh : A.handled = none) (hd : o.data = .cell v₀) (hc : env.cells.lookup a = some c)
    (h : ∀ h' o' tk, o'.data = .cell (some x) → Own g L h' (upd m b y) [(c, o')] → Q () { s with heap := h', toks := tk })
    (hk : env.scope.kind = .function := by rfl) (hx : env.kindOf a = some .cell := by rfl) (hb : env.kindOf b = some .local := by rfl) (hL : env.locals = L := by rfl) :
    wpAny (MP w) A (assign (.Tuple [.Name a pa, .Name b pb] kk tp) env (.ref T)) Q E s := by
  have hT : s.heap.IsTuple T #[x, y] := ⟨_, (O.nws _ (.head _)).1, rfl, _, rfl⟩
  refine wpAny_assign_Tuple hh hT rfl rfl fun h₁ he₁ => ?_
  have st : Stay s.heap h₁ := fun b o e => he₁ b o (Nat.ne_of_lt (Heap.lt_size e)) e
  have O₁ : Own g L h₁ m [(c, o)] := (O.stay st).sub fun p hp => .tail _ hp
  show wpAny _ _ (assignInOrder [assign (.Name a pa) env, assign (.Name b pb) env] [x, y]) _ _ _
  refine assignInOrder_cons (wpAny_assign_Name (stC O₁ (List.forall_mem_nil _) hd hc (fun h₂ o₂ hd₂ O₂ => ?_) hk hx))
  subst hL
  refine assignInOrder_cons (wpAny_assign_Name (wpAny_storeName_local hb O₂.ns (fun h₃ hn₃ hs₃ => ?_) (by rw [hk]; rfl)))
  exact assignInOrder_nil (h _ _ _ hd₂ (O₂.set hn₃ hs₃))
end Mine
end
section
open PySem PySem.W PyProof.Rows PySem.Calls PySem.Builtin PySem.Builtin.Str
set_option Elab.async false
set_option maxRecDepth 100000
set_option maxHeartbeats 8000000
namespace Mine
section
variable {w : World} {A : Around} {s : Shared} {env : Env} {g : Heap} {L : Addr} {m : Str → Option Value} {nw : List (Addr × Obj)} {elt iter : PySem.Expr} {x : Str} {px : Pos} {ifs : List PySem.Expr} {scope : Scope} {cl : List (Str × Addr)} {pos : Pos}
/-- what a turn's expression leaves -/
def TEnd {α : Type} (g₁ : Heap) (C : Addr) (m₃ : Str → Option Value) (s₃ : Shared) (F : α → List (Addr × Obj) → Prop) (y : α) (s₄ : Shared) : Prop := ∃ h' tk nw', s₄ = { s₃ with heap := h', toks := tk } ∧ Own g₁ C h' m₃ nw' ∧ F y nw'
theorem TEnd.mk {α : Type} {g₁ : Heap} {C : Addr} {m₃ : Str → Option Value} {s₃ : Shared} {F : α → List (Addr × Obj) → Prop} {y : α} {h' : Heap} {tk : Nat} (nw' : List (Addr × Obj)) (O : Own g₁ C h' m₃ nw') (f : F y nw') : TEnd g₁ C m₃ s₃ F y { s₃ with heap := h', toks := tk } := ⟨h', tk, nw', rfl, O, f⟩
/-- a turn's expression: it may make objects of its own, and leaves all else, and the names, as they are -/
def TurnD (w : World) (A : Around) (env : Env) (scope : Scope) (cl : List (Str × Addr)) (x : Str) (g : Heap) (nw : List (Addr × Obj)) {α : Type} (t : Env → Sem α) (v : Value) (F : α → List (Addr × Obj) → Prop) : Prop :=
  ∀ C s₃ g₁ m₃, Stay g g₁ → (∀ q ∈ nw, g₁.get? q.1 = some q.2) → Own g₁ C s₃.heap m₃ [] → m₃ x = some v →
    wpAny (MP w) A (t (compEnvC scope cl C env)) (TEnd g₁ C m₃ s₃ F) NoE s₃
/-- what a turn leaves, seen from the loop -/
theorem turnD_use {α : Type} {t : Env → Sem α} {v : Value} {F : α → List (Addr × Obj) → Prop} {G : Heap} {C : Addr} {s₃ : Shared} {m₃ : Str → Option Value} {E' : Value → Shared → Prop} (T : TurnD w A env scope cl x g nw t v F)
    (O : Own g L G m nw) (hG : ∀ b o, G.get? b = some o → b ≠ C ∧ s₃.heap.get? b = some o) (hn : s₃.heap.Ns C m₃) (hm : m₃ x = some v) :
    wpAny (MP w) A (t (compEnvC scope cl C env)) (fun y s₄ => ∃ h' tk nw', s₄ = { s₃ with heap := h', toks := tk } ∧ h'.Ns C m₃ ∧ (∀ b o, b ≠ C → s₃.heap.get? b = some o → h'.get? b = some o) ∧
      (∀ p ∈ nw', h'.get? p.1 = some p.2 ∧ p.1 ≠ C ∧ s₃.heap.get? p.1 = none) ∧ F y nw') E' s₃ := by
  obtain ⟨g₁, O₁, k₁⟩ := own_in hn
  have st : ∀ b o, G.get? b = some o → g₁.get? b = some o := fun b o e => k₁ b o (hG b o e).1 (hG b o e).2
  refine wpAny_noRaise (wpAny_mono (T C s₃ g₁ m₃ (fun b o e => st b o (O.keep b o e)) (fun q hq => st _ _ (O.nws q hq).1) O₁ hm) (fun y s₄ h₄ => ?_) fun _ _ e => e)
  obtain ⟨h', tk, nw', rfl, O', hF⟩ := h₄
  refine ⟨h', tk, nw', rfl, O'.ns, fun b o hb e => O'.keep b o (k₁ b o hb e), fun p hp => ⟨(O'.nws p hp).1, (O'.nws p hp).2.1, ?_⟩, hF⟩
  cases e : s₃.heap.get? p.1 with
  | none => rfl
  | some o => have := k₁ _ _ (O'.nws p hp).2.1 e; rw [(O'.nws p hp).2.2] at this; cases this

def Rel (C D : Addr) (wr : List Addr) (F : Value → Value → List (Addr × Obj) → Prop) (h : Heap) (v y : Value) : Prop := ∃ nw', (∀ q ∈ nw', h.get? q.1 = some q.2 ∧ q.1 ≠ C ∧ q.1 ≠ D ∧ q.1 ∉ wr) ∧ F v y nw'
theorem Rel.up {C D : Addr} {wr : List Addr} {F : Value → Value → List (Addr × Obj) → Prop} {h h' : Heap} {v y : Value} (r : Rel C D wr F h v y) (k : ∀ b o, b ≠ C → b ≠ D → b ∉ wr → h.get? b = some o → h'.get? b = some o) : Rel C D wr F h' v y :=
  let ⟨nw', a, f⟩ := r; ⟨nw', fun q hq => ⟨k _ _ (a q hq).2.1 (a q hq).2.2.1 (a q hq).2.2.2 (a q hq).1, (a q hq).2⟩, f⟩
theorem paired_up {α β : Type} {F F' : α → β → Prop} {l₁ : List α} {l₂ : List β} (h : Paired F l₁ l₂) (k : ∀ a b, F a b → F' a b) : Paired F' l₁ l₂ := by
  induction h with
  | nil => exact .nil
  | cons f _ ih => exact .cons (k _ _ f) ih
theorem upto_snoc {P : Nat → Value → Prop} {vs : List Value} {v : Value} (h : ∀ j u, vs[j]? = some u → P j u) (hv : P vs.length v) (j : Nat) (u : Value) (e : (vs ++ [v])[j]? = some u) : P j u := by
  by_cases hj : j < vs.length
  · exact h j u (by rw [← e, List.getElem?_append_left hj])
  · rw [List.getElem?_append_right (Nat.le_of_not_lt hj)] at e
    obtain ⟨e1, e2⟩ := List.getElem?_eq_some_iff.mp e
    have hj' : j = vs.length := by rw [List.length_singleton] at e1; omega
    subst hj'
    simp at e2
    exact e2 ▸ hv
theorem blockD {G : Heap} {s₂ : Shared} {I : Addr} {fp wr : List Addr} {n : Nat} {P : Nat → Value → Prop} {St : Nat → Heap → Prop} {E : Value → Shared → Prop}
    (W : Walks Challenge.rw_ph0113_01.row.prog w A I fp wr n P St) (hlive : ∀ i h, St i h → ∀ b ∈ wr, ∃ o, h.get? b = some o) (hsz : n ≤ 1000) (p : Value → Bool) (F : Value → Value → List (Addr × Obj) → Prop) {RR : Value → Addr → Result → Shared → Prop}
    (O : Own g L G m nw) (up : Stay G s₂.heap) (hwr : ∀ b ∈ wr, G.get? b = none)
    (hcell : ∀ y ∈ scope.names, y.2 ≠ .cell) (hkind : scope.kind = .function) (hx : scope.names.lookup x = some .local) (hst : St 0 s₂.heap) (hfp : ∀ b ∈ fp, b < s₂.heap.objs.size)
    (tests : ∀ i v, P i v → TurnD w A env scope cl x g nw (testsOf ifs) v (fun ok _ => ok = p v)) (elts : ∀ i v, P i v → p v = true → TurnD w A env scope cl x g nw (eval elt) v (F v))
    (hRR : ∀ D C h' tk m' ys k (vs : List Value), s₂.heap.get? D = none → s₂.heap.get? C = none → D ≠ C → h'.Ns C m' → h'.get? D = some (lstN ys k) → vs.length = n → (∀ j v, vs[j]? = some v → P j v) → Paired (Rel C D wr F h') (vs.filter p) ys →
      Stay G h' → RR (.ref D) C (.ok .next) { s₂ with heap := h', toks := tk }) :
    wpAny (MP w) A (newList []) (fun acc s₃ => wpAny (MP w) A (newFunctionEnv scope env.globals cl [] env.qual none .none (some env)) (fun cenv s₄ =>
      codeAny (MP w) A (.compStart (.ListComp elt [⟨.Name x px, iter, ifs, 0⟩] scope pos) 0 (.ref I) acc { cenv with scope := relabel scope env }) (RR acc cenv.locals) s₄) E s₃) E s₂ := by
  refine comp_ground hcell hkind fun D h₁ tk₁ c hD hc hl hn hacc old => ?_
  rw [hc, hl]
  clear hc hl c
  have fresh : ∀ {a : Nat}, D ≤ a → s₂.heap.get? a = none ∧ a ∉ fp ∧ a ∉ wr := fun {a} ha => by
    have hf : a ∉ fp := fun q => by have h9 : @LT.lt Nat _ a s₂.heap.objs.size := hfp _ q; omega
    exact ⟨get_none (hD ▸ ha), hf, fun q => hf (W.sub _ q)⟩
  obtain ⟨fD, Df, Dw⟩ := fresh (Nat.le_refl D)
  obtain ⟨fC, Cf, Cw⟩ := fresh (Nat.le_add_right D 1)
  have hDC : D ≠ D + 1 := Nat.ne_of_lt (Nat.lt_succ_self _)
  have off : ∀ {b o}, G.get? b = some o → b ≠ D + 1 ∧ b ≠ D ∧ b ∉ wr := fun {b o} e =>
    ⟨fun q => (by rw [q] at e; rw [up _ _ e] at fC; cases fC), fun q => (by rw [q] at e; rw [up _ _ e] at fD; cases fD), fun q => (by rw [hwr b q] at e; cases e)⟩
  have start : St 0 h₁ := W.frame _ _ _ hst fun b _ => old b
  clear fresh hD
  generalize D + 1 = C at *
  have loop : codeAny (MP w) A (.compLoop (.ListComp elt [⟨.Name x px, iter, ifs, 0⟩] scope pos) 0 (.ref I) (.ref D) (compEnvC scope cl C env)) (RR (.ref D) C) { s₂ with heap := h₁, toks := tk₁ } := by
    refine codeAny_compLoop_tests (fun k s' => ∃ h' tk m' ys kk, ∃ vs : List Value, s' = { s₂ with heap := h', toks := tk } ∧ St vs.length h' ∧ h'.get? D = some (lstN ys kk) ∧ h'.Ns C m' ∧ (∀ j v, vs[j]? = some v → P j v) ∧
      Paired (Rel C D wr F h') (vs.filter p) ys ∧ vs.length ≤ n ∧ k + vs.length = n + 1 ∧ Stay G h') ?_ (n + 1)
      ⟨h₁, _, _, [], 0, [], rfl, start, hacc, hn, (fun _ _ e => by cases e), .nil, Nat.zero_le _, rfl, up.tr old⟩
    rintro k s' ⟨H, tk, m', ys, kk, vs, rfl, hst', hacc', hn', hP, hF, hi, hk, hG⟩
    rcases Nat.lt_or_eq_of_le hi with hlt | hin
    · have step : ∀ v, (vs ++ [v]).length = vs.length + 1 := fun v => by rw [List.length_append, List.length_singleton]
      refine W.item vs.length _ _ _ hlt hst' fun v h₂ tk₂ hPv hst₂ k₂ => ?_
      refine wpAny_assign_Name (wpAny_storeName_local (env := compEnvC scope cl C env) (lookup_relabel_local hx) (hn'.at' fun o e => k₂ _ o Cw e) (fun h₃ hn₃ e₃ => ?_) (by simp [compEnvC, relabel, hkind]))
      have k₃ : ∀ b o, b ≠ C → b ∉ wr → H.get? b = some o → h₃.get? b = some o := fun b o hb hw e => e₃.extBut b o hb (k₂ b o hw e)
      have hG₃ : ∀ b o, G.get? b = some o → b ≠ C ∧ h₃.get? b = some o := fun b o e => ⟨(off e).1, k₃ b o (off e).1 (off e).2.2 (hG b o e)⟩
      refine wpAny_mono (turnD_use (tests vs.length v hPv) O hG₃ hn₃ (by simp)) (fun ok s₄ => ?_) fun _ _ e => e
      rintro ⟨h₄, tk₄, _, rfl, hn₄, kept, _, rfl⟩
      have hst₄ : St (vs.length + 1) h₄ := W.frame _ _ _ hst₂ fun b hb o e => kept b o (fun q => Cf (q ▸ hb)) (e₃.extBut b o (fun (q : b = C) => Cf (q ▸ hb)) e)
      have k₄ : ∀ b o, b ≠ C → b ∉ wr → H.get? b = some o → h₄.get? b = some o := fun b o hb hw e => kept b o hb (k₃ b o hb hw e)
      have hG₄ : ∀ b o, G.get? b = some o → b ≠ C ∧ h₄.get? b = some o := fun b o e => ⟨(off e).1, kept b o (off e).1 (hG₃ b o e).2⟩
      have hP' := upto_snoc hP hPv
      cases hpv : p v with
      | false =>
        refine ⟨n - vs.length, by omega, h₄, tk₄, _, ys, kk, vs ++ [v], rfl, (step v).symm ▸ hst₄, k₄ _ _ hDC Dw hacc', hn₄, hP', ?_, by rw [step]; exact hlt, by rw [step]; omega, fun b o e => (hG₄ b o e).2⟩
        rw [List.filter_append]
        simpa [hpv] using paired_up hF fun a b r => r.up fun b o h1 _ h3 e => k₄ b o h1 h3 e
      | true =>
        refine wpAny_mono (turnD_use (elts vs.length v hPv hpv) O hG₄ hn₄ (by simp)) (fun y s₅ => ?_) fun _ _ e => e
        rintro ⟨h₅, tk₅, nw', rfl, hn₅, k₅, hnw, hFy⟩
        have few : ys.length ≤ 1000 := by have q1 := hF.length; have q2 := List.length_filter_le p vs; omega
        refine append_at (hsz := by show ys.toArray.size ≤ sizeLine; rw [List.size_toArray, sizeLine_eq]; omega) (k₅ _ _ hDC (k₄ _ _ hDC Dw hacc')) fun h₆ e₆ hD₆ => ?_
        have st₆ := W.frame _ _ h₆ hst₄ fun b hb o e => e₆.extBut b o (fun q => Df (q ▸ hb)) (k₅ b o (fun q => Cf (q ▸ hb)) e)
        refine ⟨n - vs.length, by omega, h₆, _, _, ys ++ [y], kk + 1, vs ++ [v], rfl, (step v).symm ▸ st₆, by rw [hD₆]; simp, hn₅.sameBut e₆ (Ne.symm hDC), hP', ?_, by rw [step]; exact hlt, by rw [step]; omega, fun b o e => e₆.extBut b o (off e).2.1 (k₅ b o (off e).1 (hG₄ b o e).2)⟩
        have old₆ : Paired (Rel C D wr F h₆) (vs.filter p) ys := paired_up hF fun a b r => r.up fun b o h1 h2 h3 e => e₆.extBut b o h2 (k₅ b o h1 (k₄ b o h1 h3 e))
        have new₆ : Rel C D wr F h₆ v y := by
          refine ⟨nw', fun q hq => ?_, hFy⟩
          obtain ⟨at5, nC, no4⟩ := hnw q hq
          dsimp only at no4
          have nD : q.1 ≠ D := fun e => by rw [e, k₄ _ _ hDC Dw hacc'] at no4; cases no4
          refine ⟨e₆.extBut _ _ nD at5, nC, nD, fun hw => ?_⟩
          obtain ⟨o, ho⟩ := hlive _ _ hst₄ _ hw
          rw [ho] at no4; cases no4
        rw [List.filter_append]
        simpa [hpv] using Paired.snoc old₆ new₆
    · refine W.done _ _ _ (hin ▸ hst') fun h₂ tk₂ k₂ => ?_
      exact hRR D C h₂ tk₂ m' ys kk vs fD fC hDC (hn'.at' fun o e => k₂ _ o Cw e) (k₂ _ _ Dw hacc') hin hP (paired_up hF fun a b r => r.up fun b o _ _ h3 e => k₂ b o h3 e) fun b o e => k₂ b o (off e).2.2 (hG b o e)
  exact codeAny_compStart_list loop (W.self 0 _ _ _ start loop)
end
end Mine
end
section
open PySem PySem.W PyProof.Rows PySem.Calls PySem.Builtin PySem.Builtin.Str
set_option Elab.async false
set_option maxRecDepth 100000
set_option maxHeartbeats 8000000
namespace Mine
section
variable {w : World} {A : Around} {s : Shared} {env : Env} {g : Heap} {L : Addr} {m : Str → Option Value} {nw : List (Addr × Obj)} {elt iter : PySem.Expr} {x : Str} {px : Pos} {ifs : List PySem.Expr} {scope : Scope} {cl : List (Str × Addr)} {pos : Pos}
def CHere (w : World) (A : Around) (env : Env) (elt : PySem.Expr) (x : Str) (px : Pos) (iter : PySem.Expr) (ifs : List PySem.Expr) (scope : Scope) (cl : List (Str × Addr)) (pos : Pos) (RR : Value → Addr → Result → Shared → Prop) (xv : Value) (s₁ : Shared) : Prop :=
  wpAny (MP w) A (pyIter xv) (fun it s₂ => wpAny (MP w) A (newList []) (fun acc s₃ =>
      wpAny (MP w) A (newFunctionEnv scope env.globals cl [] env.qual none .none (some env)) (fun cenv s₄ =>
        codeAny (MP w) A (.compStart (.ListComp elt [⟨.Name x px, iter, ifs, 0⟩] scope pos) 0 it acc { cenv with scope := relabel scope env }) (RR acc cenv.locals) s₄) NoE s₃) NoE s₂) NoE s₁
theorem clc_here {Q : Value → Shared → Prop} (hclos : closureFor scope env = pure cl) (hkind : scope.kind = .function)
    (hnames : ∀ y ∈ scope.names, y.2 = .local → scope.names.lookup y.1 = some .local)
    (h : wpAny (MP w) A (eval iter env) (CHere w A env elt x px iter ifs scope cl pos (compPost (MP w) A NoE none Q)) NoE s) (hs : ∀ x, foldedSetIterable iter env x = pure x := by intro _; rfl) :
    wpAny (MP w) A (eval (.ListComp elt [⟨.Name x px, iter, ifs, 0⟩] scope pos) env) Q NoE s := by
  rw [eval_ListComp]
  exact wpAny_comprehension_free (use := none) rfl hs hclos hkind hnames h
theorem cac_here {Q : Flow → Shared → Prop} {y : Str} {py spos : Pos}
    (hsw : swapsWith (.ListComp elt [⟨.Name x px, iter, ifs, 0⟩] scope pos) (some (.Name y py)) spos.line env = pure true)
    (hclos : closureFor scope env = pure cl) (hkind : scope.kind = .function)
    (hnames : ∀ y ∈ scope.names, y.2 = .local → scope.names.lookup y.1 = some .local)
    (h : wpAny (MP w) A (eval iter env) (CHere w A env elt x px iter ifs scope cl pos (compPost (MP w) A NoE (some (assign (.Name y py) env)) (fun _ s' => Q .next s'))) NoE s) (hs : ∀ x, foldedSetIterable iter env x = pure x := by intro _; rfl) :
    wpAny (MP w) A (exec (.Assign [.Name y py] (.ListComp elt [⟨.Name x px, iter, ifs, 0⟩] scope pos) spos) env) Q NoE s := by
  refine (exec_Assign_Name_used _ _ _ _ hsw).symm ▸ wpAny_bind (wpAny_standAt (wpAny_bind (wpAny_bind (wpAny_mono ?made (fun _ _ (q : Q .next _) => wpAny_pure (wpAny_pure q)) fun _ _ e => e))))
  exact wpAny_comprehension_free (use := some (assign (.Name y py) env)) rfl hs hclos hkind hnames h
def FinD (g : Heap) (L : Addr) (m : Str → Option Value) (nw : List (Addr × Obj)) (s : Shared) (n : Nat) (P : Nat → Value → Prop) (p : Value → Bool) (F : Value → Value → List (Addr × Obj) → Prop) (RR : Value → Addr → Result → Shared → Prop) : Prop :=
  ∀ D C h' tk m' ys k (vs : List Value), (∀ q ∈ nw, q.1 ≠ D ∧ q.1 ≠ C) → D ≠ C → L ≠ C → g.get? C = none → h'.Ns C m' → Own g L h' m ((D, lstN ys k) :: nw) → vs.length = n → (∀ j v, vs[j]? = some v → P j v) → Paired (Rel C D [] F h') (vs.filter p) ys → RR (.ref D) C (.ok .next) { s with heap := h', toks := tk }
theorem endD {G hI h' : Heap} {D C : Addr} {ys : List Value} {k : Nat} (O : Own g L G m nw) (up : Stay G hI) (hD : hI.get? D = none) (hC : hI.get? C = none) (hDo : h'.get? D = some (lstN ys k)) (hG : Stay G h') :
    (∀ q ∈ nw, q.1 ≠ D ∧ q.1 ≠ C) ∧ L ≠ C ∧ g.get? C = none ∧ Own g L h' m ((D, lstN ys k) :: nw) := by
  have hne : ∀ {a : Addr}, hI.get? a = none → ∀ b o, G.get? b = some o → b ≠ a := fun ha b o e q => by rw [q] at e; rw [up _ o e] at ha; cases ha
  have hg : ∀ {a : Addr}, hI.get? a = none → g.get? a = none := fun {a} ha => by
    cases e : g.get? a with
    | none => rfl
    | some o => exact absurd rfl (hne ha a o (O.keep _ _ e))
  have O' := O.stay hG
  obtain ⟨o, _, _, eL, _⟩ := O.ns
  refine ⟨fun q hq => ⟨hne hD _ _ (O.nws q hq).1, hne hC _ _ (O.nws q hq).1⟩, hne hC _ _ eL, hg hC, O'.ns, O'.keep, O.gL, fun p hp => ?_⟩
  rcases List.mem_cons.mp hp with rfl | hp
  · exact ⟨hDo, Ne.symm (hne hD _ _ eL), hg hD⟩
  · exact O'.nws p hp
theorem comp_listD {RR : Value → Addr → Result → Shared → Prop} {l : Addr} {items : List Value} (p : Value → Bool) (F : Value → Value → List (Addr × Obj) → Prop) (hh : A.handled = none) (O : Own g L s.heap m nw) (hl : s.heap.IsList l items.toArray) (hlen : items.length ≤ 1000)
    (hcell : ∀ y ∈ scope.names, y.2 ≠ .cell) (hkind : scope.kind = .function) (hx : scope.names.lookup x = some .local)
    (tests : ∀ (i : Nat) v, items[i]? = some v → TurnD w A env scope cl x g nw (testsOf ifs) v (fun ok _ => ok = p v)) (elts : ∀ (i : Nat) v, items[i]? = some v → p v = true → TurnD w A env scope cl x g nw (eval elt) v (F v))
    (fin : FinD g L m nw s items.length (fun (i : Nat) v => items[i]? = some v) p F RR) : CHere w A env elt x px iter ifs scope cl pos RR (.ref l) s := by
  unfold CHere
  refine wpAny_pyIter_list hl ?_
  have up : Stay s.heap (s.heap.push { cls := .type "list_iterator", data := .fields #[.ref l, .int 0 0] }) := fun b o e => Heap.get?_push_of_some _ e
  have hlt : l < s.heap.objs.size := by obtain ⟨_, e, _⟩ := hl; exact Heap.lt_size e
  refine blockD (G := s.heap) (Walks.list hh s.heap.objs.size l (Nat.ne_of_lt hlt) items.toArray) (fun i h st b hb => by rw [List.mem_singleton.mp hb]; obtain ⟨o, e, _⟩ := st.1; exact ⟨o, e⟩) (by rw [List.size_toArray]; omega) p F O up
    (fun b hb => by rw [List.mem_singleton.mp hb]; exact get_none (Nat.le_refl _)) hcell hkind hx ⟨⟨_, Heap.get?_push_size _ rfl, rfl, rfl⟩, hl.push _⟩ (fun b hb => ?_) (fun i v h => tests i v (by simpa using h)) (fun i v h => elts i v (by simpa using h)) ?_
  · show b < (s.heap.push _).objs.size
    rw [Heap.size_push]
    rcases List.mem_cons.mp hb with rfl | hb
    · exact Nat.lt_succ_self _
    · rw [List.mem_singleton.mp hb]; exact Nat.lt_succ_of_lt hlt
  · intro D C h' tk m' ys k vs hD hC hDC hn hDo hlen' hP hF hG
    obtain ⟨e1, e2, e3, O'⟩ := endD O up hD hC hDo hG
    exact fin D C h' tk m' ys k vs e1 hDC e2 e3 hn O' (by simpa using hlen') (fun j v e => by simpa using hP j v e) (paired_up hF fun a b r => let ⟨nw', q, f⟩ := r; ⟨nw', fun z hz => ⟨(q z hz).1, (q z hz).2.1, (q z hz).2.2.1, fun h => nomatch h⟩, f⟩)
theorem comp_rangeD {RR : Value → Addr → Result → Shared → Prop} {r : Addr} {a b : Int} {t u v : Tok} (n : Nat) (p : Value → Bool) (F : Value → Value → List (Addr × Obj) → Prop) (hh : A.handled = none) (O : Own g L s.heap m nw) (hr : IsRange s.heap r a b 1 t u v)
    (ha : -(2 ^ 62) ≤ a) (ha' : a < 2 ^ 62) (hb : -(2 ^ 62) ≤ b) (hb' : b < 2 ^ 62) (hn : n = (b - a).toNat) (hlen : n ≤ 1000)
    (hcell : ∀ y ∈ scope.names, y.2 ≠ .cell) (hkind : scope.kind = .function) (hx : scope.names.lookup x = some .local)
    (tests : ∀ (i : Nat) t, i < n → TurnD w A env scope cl x g nw (testsOf ifs) (.int (a + (i : Int)) t) (fun ok _ => ok = p (.int (a + (i : Int)) t))) (elts : ∀ (i : Nat) t, i < n → p (.int (a + (i : Int)) t) = true → TurnD w A env scope cl x g nw (eval elt) (.int (a + (i : Int)) t) (F (.int (a + (i : Int)) t)))
    (fin : FinD g L m nw s n (fun i v => ∃ t, v = .int (a + (i : Int)) t) p F RR) : CHere w A env elt x px iter ifs scope cl pos RR (.ref r) s := by
  have hsm : Builtin.Range.small a b 1 = true := small_one ha ha' hb hb'
  have hsz : Builtin.Range.rangeSize a b 1 = (n : Int) := by rw [rangeSize_one, hn]; split <;> omega
  unfold CHere
  refine wpAny_pyIter_range hr hsm ?_
  have up : Stay s.heap (s.heap.push { cls := .type "range_iterator", data := .fields #[rawInt a, rawInt (Builtin.Range.rangeSize a b 1), rawInt 1] }) := fun b o e => Heap.get?_push_of_some _ e
  have W : Walks Challenge.rw_ph0113_01.row.prog w A s.heap.objs.size [s.heap.objs.size] [s.heap.objs.size] n (fun i v => i < n ∧ ∃ t, v = .int (a + i * 1) t) (fun i h => IsRangeIter h s.heap.objs.size (a + (i : Nat) * 1) ((n : Int) - (i : Nat)) 1) := (Walks.range hh s.heap.objs.size a 1 n).bound
  refine blockD (G := s.heap) W (fun i h st b hb => by rw [List.mem_singleton.mp hb]; exact ⟨_, st⟩) hlen p F O up
    (fun b hb => by rw [List.mem_singleton.mp hb]; exact get_none (Nat.le_refl _)) hcell hkind hx (by show IsRangeIter _ _ _ _ _; rw [hsz]; simpa using Heap.get?_push_size _ rfl) (fun b hb => ?_) (fun i v h => ?_) (fun i v h => ?_) ?_
  · show b < (s.heap.push _).objs.size
    rw [Heap.size_push, List.mem_singleton.mp hb]; exact Nat.lt_succ_self _
  · obtain ⟨hi, t, rfl⟩ := h; rw [Int.mul_one]; exact tests i t hi
  · obtain ⟨hi, t, rfl⟩ := h; rw [Int.mul_one]; exact elts i t hi
  · intro D C h' tk m' ys k vs hD hC hDC hn' hDo hlen' hP hF hG
    obtain ⟨e1, e2, e3, O'⟩ := endD O up hD hC hDo hG
    exact fin D C h' tk m' ys k vs e1 hDC e2 e3 hn' O' hlen' (fun j v e => by obtain ⟨_, t, e'⟩ := hP j v e; exact ⟨t, by rw [e', Int.mul_one]⟩) (paired_up hF fun a b r => let ⟨nw', q, f⟩ := r; ⟨nw', fun z hz => ⟨(q z hz).1, (q z hz).2.1, (q z hz).2.2.1, fun h => nomatch h⟩, f⟩)
/-- what is known of an element at the end -/
def RelE (D : Addr) (F : Value → Value → List (Addr × Obj) → Prop) (h : Heap) (v y : Value) : Prop := ∃ nw', (∀ q ∈ nw', h.get? q.1 = some q.2 ∧ q.1 ≠ D) ∧ F v y nw'
theorem fin_none {Q : Value → Shared → Prop} {n : Nat} {P : Nat → Value → Prop} {p : Value → Bool} {F : Value → Value → List (Addr × Obj) → Prop}
    (h : ∀ D h' tk ys k (vs : List Value), (∀ q ∈ nw, q.1 ≠ D) → Own g L h' m ((D, lstN ys k) :: nw) → vs.length = n → (∀ j v, vs[j]? = some v → P j v) → Paired (RelE D F h') (vs.filter p) ys → Q (.ref D) { s with heap := h', toks := tk }) :
    FinD g L m nw s n P p F (compPost (MP w) A NoE none Q) := by
  intro D C h' tk m' ys k vs h1 hDC hLC hgC hn O hlen hP hF
  refine ⟨m', hn, fun h'' hs => ?_⟩
  have O' : Own g L h'' m ((D, lstN ys k) :: nw) := ⟨O.ns.sameBut hs hLC, fun b o e => hs.extBut b o (fun q => by rw [q, hgC] at e; cases e) (O.keep b o e), O.gL, fun q hq => ⟨hs.extBut _ _ (by
    rcases List.mem_cons.mp hq with rfl | hq
    · exact hDC
    · exact (h1 q hq).2) (O.nws q hq).1, (O.nws q hq).2⟩⟩
  exact h D h'' tk ys k vs (fun q hq => (h1 q hq).1) O' hlen hP (paired_up hF fun a b r => let ⟨nw', q, f⟩ := r; ⟨nw', fun z hz => ⟨hs.extBut _ _ (q z hz).2.1 (q z hz).1, (q z hz).2.2.1⟩, f⟩)
theorem fin_some {Qn : Shared → Prop} {y : Str} {py : Pos} {n : Nat} {P : Nat → Value → Prop} {p : Value → Bool} {F : Value → Value → List (Addr × Obj) → Prop}
    (h : ∀ D h' tk ys k (vs : List Value), (∀ q ∈ nw, q.1 ≠ D) → Own g L h' (upd m y (.ref D)) ((D, lstN ys k) :: nw) → vs.length = n → (∀ j v, vs[j]? = some v → P j v) → Paired (RelE D F h') (vs.filter p) ys → Qn { s with heap := h', toks := tk })
    (hF' : ∀ v z nw', F v z nw' → ∀ q ∈ nw', q.1 ≠ L := by intros; contradiction)
    (hL : env.locals = L := by rfl) (hk : env.scope.kind = .function := by rfl) (hy : env.kindOf y = some .local := by rfl) :
    FinD g L m nw s n P p F (compPost (MP w) A NoE (some (assign (.Name y py) env)) (fun _ s' => Qn s')) := by
  intro D C h' tk m' ys k vs h1 hDC hLC hgC hn O hlen hP hF
  subst hL
  show wpAny _ A (assign (.Name y py) env (.ref D)) _ _ _
  refine wpAny_assign_Name (wpAny_storeName_local hy O.ns (fun h₂ hn₂ hs₂ => ?_) (by rw [hk]; rfl))
  have O₂ := O.set hn₂ hs₂
  refine ⟨m', hn.sameBut hs₂ (Ne.symm hLC), fun h'' hs => ?_⟩
  have O' : Own g env.locals h'' (upd m y (.ref D)) ((D, lstN ys k) :: nw) := ⟨O₂.ns.sameBut hs hLC, fun b o e => hs.extBut b o (fun q => by rw [q, hgC] at e; cases e) (O₂.keep b o e), O.gL, fun q hq => ⟨hs.extBut _ _ (by
    rcases List.mem_cons.mp hq with rfl | hq
    · exact hDC
    · exact (h1 q hq).2) (O₂.nws q hq).1, (O₂.nws q hq).2⟩⟩
  exact h D h'' _ ys k vs (fun q hq => (h1 q hq).1) O' hlen hP (paired_up hF fun a b r => let ⟨nw', q, f⟩ := r; ⟨nw', fun z hz => ⟨hs.extBut _ _ (q z hz).2.1 (hs₂.extBut _ _ (hF' _ _ _ f z hz) (q z hz).1), (q z hz).2.2.1⟩, f⟩)
theorem tests_nilD {v : Value} : TurnD w A env scope cl x g nw (testsOf []) v (fun ok _ => ok = (fun _ : Value => true) v) := fun _ s₃ _ _ _ _ O _ => wpAny_tests_nil (TEnd.mk [] O rfl)
theorem tests_oneD {c : PySem.Expr} {v : Value} {b : Bool} (h : TurnD w A env scope cl x g nw (fun e => isTrue c e (eval c e)) v (fun ok _ => ok = b)) : TurnD w A env scope cl x g nw (testsOf [c]) v (fun ok _ => ok = b) :=
  fun C s₃ g₁ m₃ h1 h2 h3 h4 => wpAny_tests_one (h C s₃ g₁ m₃ h1 h2 h3 h4)
end
end Mine
end
section
open PySem PySem.W PyProof.Rows PySem.Calls PySem.Builtin PySem.Builtin.Str
set_option Elab.async false
set_option maxRecDepth 100000
set_option maxHeartbeats 8000000
namespace Mine
theorem StrL.of_get : ∀ {vs : List Value} {xs : List (List Nat)}, vs.length = xs.length → (∀ (i : Nat) x, xs[i]? = some x → ∃ t, vs[i]? = some (.str (S x) t)) → StrL vs xs
  | [], [], _, _ => .nil
  | [], _ :: _, h, _ => by simp at h
  | _ :: _, [], h, _ => by simp at h
  | v :: vs, n :: ns, h, hg => by
    obtain ⟨t, e⟩ := hg 0 n rfl
    simp at e; subst e
    exact .cons n t (StrL.of_get (by simpa using h) fun i k hk => by
      obtain ⟨t, e⟩ := hg (i + 1) k (by simpa using hk)
      exact ⟨t, by simpa using e⟩)
theorem paired_get {α β : Type} {F : α → β → Prop} : ∀ {l₁ : List α} {l₂ : List β}, Paired F l₁ l₂ → ∀ {i : Nat} {a : α}, l₁[i]? = some a → ∃ b, l₂[i]? = some b ∧ F a b
  | _, _, .nil, _, _, h => by simp at h
  | _, _, .cons f _, 0, _, h => by simp at h; subst h; exact ⟨_, rfl, f⟩
  | _, _, .cons _ r, i + 1, _, h => by simpa using paired_get r (by simpa using h)
theorem strl_range {n : Nat} {R : Value → Value → Prop} {vs ys : List Value} (f : Nat → List Nat) (hlen : vs.length = n) (hP : ∀ (j : Nat) v, vs[j]? = some v → ∃ t, v = .int (0 + (j : Int)) t) (hF : Paired R (vs.filter fun _ => true) ys)
    (hR : ∀ v y, R v y → ∃ (i : Nat) (t t' : Tok), v = .int (0 + (i : Int)) t ∧ y = .str (S (f i)) t') : StrL ys ((List.range n).map f) := by
  rw [List.filter_eq_self.mpr (by simp)] at hF
  refine StrL.of_get (by rw [← hF.length, hlen]; simp) fun i x hx => ?_
  rw [List.getElem?_map] at hx
  have hi : i < n := by
    rcases Nat.lt_or_ge i n with h | h
    · exact h
    · rw [List.getElem?_eq_none (by simpa using h)] at hx; cases hx
  rw [List.getElem?_eq_getElem (by simpa using hi)] at hx
  simp at hx
  obtain ⟨y, hy, r⟩ := paired_get hF (List.getElem?_eq_getElem (l := vs) (i := i) (by omega))
  obtain ⟨t, e⟩ := hP i _ (List.getElem?_eq_getElem (l := vs) (i := i) (by omega))
  obtain ⟨i', t1, t', e1, e2⟩ := hR _ _ r
  rw [e] at e1
  have : i' = i := by injection e1 with e1 _; omega
  subst this
  exact ⟨t', by rw [hy, e2, hx]⟩
theorem rows_0 {lo sh : List Nat} {t : Tok} (h : (lo.length : Int) - sh.length = 0) : StrL [.str (S lo) t] (rowsF lo (lo.length - sh.length)) := by
  have : lo.length - sh.length = 0 := by omega
  rw [this, rowsF, if_pos rfl]; exact .cons _ _ .nil
theorem rows_2 {lo sh : List Nat} (hs : sh.length ≤ lo.length) (h : (lo.length : Int) - sh.length ≠ 0) (h1 : (lo.length : Int) - sh.length ≠ 1) : StrL [] (rowsF lo (lo.length - sh.length)) := by
  rw [rowsF, if_neg (by omega), if_neg (by omega)]; exact .nil
theorem rows_1 {lo sh : List Nat} (h1 : (lo.length : Int) - sh.length = 1) : rowsF lo (lo.length - sh.length) = (List.range lo.length).map fun k => lo.take k ++ lo.drop (k + 1) := by
  rw [rowsF, if_neg (by omega), if_pos (by omega)]
theorem cost_0 {c d : Nat} (h : [c] = [d]) : 0 = cost c d := by simp at h; subst h; simp [cost]
theorem cost_1 {c d : Nat} (hd : Ltr d) (h0 : ¬ [c] = [d]) (h : [c] = [d].map swp) : 1 = cost c d := by
  simp at h h0; subst h; revert h0; rcases hd with rfl | rfl | rfl | rfl <;> decide
theorem cost_2 {c d : Nat} (hc : Ltr c) (hd : Ltr d) (h0 : ¬ [c] = [d]) (h : ¬ [c] = [d].map swp) : 2 = cost c d := by
  simp at h h0; revert h h0; rcases hc with rfl | rfl | rfl | rfl <;> rcases hd with rfl | rfl | rfl | rfl <;> decide
end Mine
end
section
open PySem PySem.W PyProof.Rows PySem.Calls PySem.Builtin PySem.Builtin.Str
set_option Elab.async false
set_option maxRecDepth 100000
set_option maxHeartbeats 8000000
namespace Mine
section
variable {w : World} {A : Around} {E : Value → Shared → Prop} {s : Shared} {env : Env} {g h : Heap} {L : Addr} {m : Str → Option Value} {nw : List (Addr × Obj)} {Q : Value → Shared → Prop}
/-- one object of one's own is changed, wherever it stands -/
theorem Own.updp {a : Addr} {o o' : Obj} {h' : Heap} (pre post : List (Addr × Obj)) (F : Own g L h m (pre ++ (a, o) :: post)) (hne : ∀ p ∈ pre ++ post, p.1 ≠ a) (hs : Heap.SameBut a h h') (ho : h'.get? a = some o') : Own g L h' m (pre ++ (a, o') :: post) := by
  have F1 : Own g L h m ((a, o) :: (pre ++ post)) := F.sub fun p hp => by
    rcases List.mem_cons.mp hp with rfl | hp
    · exact List.mem_append_right _ (.head _)
    · rcases List.mem_append.mp hp with hp | hp
      · exact List.mem_append_left _ hp
      · exact List.mem_append_right _ (.tail _ hp)
  refine (F1.upd hne hs ho).sub fun p hp => ?_
  rcases List.mem_append.mp hp with hp | hp
  · exact .tail _ (List.mem_append_left _ hp)
  · rcases List.mem_cons.mp hp with rfl | hp
    · exact .head _
    · exact .tail _ (List.mem_append_right _ hp)
theorem stCp {z : Str} {c : Addr} {v : Value} {o : Obj} {v₀ : Option Value} {Q : Unit → Shared → Prop} (pre post : List (Addr × Obj)) (O : Own g L s.heap m (pre ++ (c, o) :: post)) (hne : ∀ p ∈ pre ++ post, p.1 ≠ c) (hd : o.data = .cell v₀) (hc : env.cells.lookup z = some c)
    (h : ∀ h' o', o'.data = .cell (some v) → Own g L h' m (pre ++ (c, o') :: post) → Q () { s with heap := h' })
    (hk : env.scope.kind = .function := by rfl) (hx : env.kindOf z = some .cell := by rfl) : wpAny (MP w) A (storeName env z v) Q E s := by
  refine wpAny_storeName_cell hk hx hc ⟨o, (O.nws _ (List.mem_append_right _ (.head _))).1, hd⟩ fun h' hv hs => ?_
  obtain ⟨o', ho', hd'⟩ := hv
  exact h h' o' hd' (O.updp pre post hne hs ho')
theorem stC0 {z : Str} {c : Addr} {v : Value} {o : Obj} {v₀ : Option Value} {Q : Unit → Shared → Prop} {post : List (Addr × Obj)} (O : Own g L s.heap m ((c, o) :: post)) (hc : env.cells.lookup z = some c) (hd : o.data = .cell v₀) (hne : ∀ p ∈ post, p.1 ≠ c)
    (h : ∀ h' o', o'.data = .cell (some v) → Own g L h' m ((c, o') :: post) → Q () { s with heap := h' })
    (hk : env.scope.kind = .function := by rfl) (hx : env.kindOf z = some .cell := by rfl) : wpAny (MP w) A (storeName env z v) Q E s := stCp [] post O hne hd hc h hk hx
theorem stC1 {z : Str} {c : Addr} {v : Value} {o : Obj} {v₀ : Option Value} {Q : Unit → Shared → Prop} {p1 : Addr × Obj} {post : List (Addr × Obj)} (O : Own g L s.heap m (p1 :: (c, o) :: post)) (hc : env.cells.lookup z = some c) (hd : o.data = .cell v₀) (hne : ∀ p ∈ p1 :: post, p.1 ≠ c)
    (h : ∀ h' o', o'.data = .cell (some v) → Own g L h' m (p1 :: (c, o') :: post) → Q () { s with heap := h' })
    (hk : env.scope.kind = .function := by rfl) (hx : env.kindOf z = some .cell := by rfl) : wpAny (MP w) A (storeName env z v) Q E s := stCp [p1] post O hne hd hc h hk hx
theorem stC2 {z : Str} {c : Addr} {v : Value} {o : Obj} {v₀ : Option Value} {Q : Unit → Shared → Prop} {p1 p2 : Addr × Obj} {post : List (Addr × Obj)} (O : Own g L s.heap m (p1 :: p2 :: (c, o) :: post)) (hc : env.cells.lookup z = some c) (hd : o.data = .cell v₀) (hne : ∀ p ∈ p1 :: p2 :: post, p.1 ≠ c)
    (h : ∀ h' o', o'.data = .cell (some v) → Own g L h' m (p1 :: p2 :: (c, o') :: post) → Q () { s with heap := h' })
    (hk : env.scope.kind = .function := by rfl) (hx : env.kindOf z = some .cell := by rfl) : wpAny (MP w) A (storeName env z v) Q E s := stCp [p1, p2] post O hne hd hc h hk hx
theorem stC3 {z : Str} {c : Addr} {v : Value} {o : Obj} {v₀ : Option Value} {Q : Unit → Shared → Prop} {p1 p2 p3 : Addr × Obj} {post : List (Addr × Obj)} (O : Own g L s.heap m (p1 :: p2 :: p3 :: (c, o) :: post)) (hc : env.cells.lookup z = some c) (hd : o.data = .cell v₀) (hne : ∀ p ∈ p1 :: p2 :: p3 :: post, p.1 ≠ c)
    (h : ∀ h' o', o'.data = .cell (some v) → Own g L h' m (p1 :: p2 :: p3 :: (c, o') :: post) → Q () { s with heap := h' })
    (hk : env.scope.kind = .function := by rfl) (hx : env.kindOf z = some .cell := by rfl) : wpAny (MP w) A (storeName env z v) Q E s := stCp [p1, p2, p3] post O hne hd hc h hk hx

/-- ''.join -/
theorem glued_S : ∀ (xs : List (List Nat)), Txt.join (S []) (xs.map S) = S xs.flatten
  | [] => rfl
  | [x] => by rw [Txt.join, StrLaws.glued_eq_join]; simp only [List.map_cons, List.map_nil, List.flatten_cons, List.flatten_nil, List.append_nil]; rfl
  | x :: y :: r => by
    have ih := glued_S (y :: r)
    rw [Txt.join, StrLaws.glued_eq_join] at ih ⊢
    simp only [List.map_cons, List.flatten_cons] at ih ⊢
    show S x ++ S [] ++ Str.join (S []) (S y :: r.map S) = _
    rw [ih, S_app, S_app, List.append_nil]
theorem StrL.vals : ∀ {vs : List Value} {xs : List (List Nat)}, StrL vs xs → ∃ l, vs = strValues l ∧ l.map (·.1) = xs.map S
  | _, _, .nil => ⟨[], rfl, rfl⟩
  | _, _, .cons x t h => let ⟨l, e1, e2⟩ := h.vals; ⟨(S x, t) :: l, by rw [e1]; rfl, by rw [List.map_cons, List.map_cons, e2]⟩
theorem joinO {l : Addr} {vs : List Value} {xs : List (List Nat)} {t : Tok} (hl : s.heap.IsList l vs.toArray) (hv : StrL vs xs) (hx : ∀ x ∈ xs, x.length ≤ 1000) (hn : xs.length ≤ 1000)
    (h : ∀ t' tk, Q (.str (S xs.flatten) t') { s with toks := tk }) : wpAny (MP w) A (call (.builtin "str.join") [.str (S []) t, .ref l]) Q E s := by
  obtain ⟨ps, rfl, e⟩ := hv.vals
  refine SC.join hl e ?_ fun t' k => by rw [glued_S]; exact h t' k
  unfold JoinOk
  have hf := StrLaws.joinFits (sep := S []) (texts := xs.map S) (B := 1000) (fun y hy => by
    obtain ⟨x, hx', rfl⟩ := List.mem_map.mp hy
    rw [S_len]; exact hx x hx') (by rw [S_len, List.length_map, List.length_nil]; omega)
  rw [hf]; rfl

/-- lists: a slice up to a number, a sum of two -/
theorem ltg_ref {x : Str} {p : Pos} {a : Addr} {r : Value} : letTemporaryGo (.Name x p) (.ref a) r = pure () := rfl
theorem lslO {e2 : PySem.Expr} {p px : Pos} {x : Str} {l : Addr} {items : List Value} {k : Int} {u : Tok} (O : Own g L s.heap m nw) (hl : s.heap.IsList l items.toArray) (hk : 0 ≤ k) (hlen : items.length ≤ 1000)
    (h : ∀ a h', (∀ p ∈ nw, p.1 < a) → Own g L h' m ((a, lstN (items.take k.toNat) 0) :: nw) → Q (.ref a) { s with heap := h' }) :
    wpAny (MP w) A (subscriptTail (.Name x px) (.Slice none (some e2) none p) (.ref l) (.ref s.heap.objs.size)) Q E { s with heap := s.heap.push { cls := .type "slice", data := .fields #[.none, .int k u, .none] } } := by
  refine subscriptTail_ops (Heap.IsList.typeIs (s := { s with heap := s.heap.push { cls := .type "slice", data := .fields #[.none, .int k u, .none] } }) (hl.push _)) list_getitem_lookup
    (wpAny_getItem_list_slice (hl.push _) (Heap.IsSliceOf.new ..) .none (.int k u) .none (by simp) ?_ (by rw [List.size_toArray, sizeLine_eq]; omega)) subd_slice (fun _ => ltg_ref)
  have e : slicePick items.toArray none (some k) none = (items.take k.toNat).toArray := by
    have := slicePick_upto' items.toArray k.toNat
    rw [Int.toNat_of_nonneg hk] at this
    simpa using this
  rw [e]
  have O1 := O.push' { cls := .type "slice", data := .fields #[.none, .int k u, .none] }
  exact h _ _ (fun q hq => O1.fresh q hq) (O1.push { cls := .type "list", data := .seq (items.take k.toNat).toArray })
theorem laddO {a b : Addr} {vs ws : List Value} (O : Own g L s.heap m nw) (ha : s.heap.IsList a vs.toArray) (hb : s.heap.IsList b ws.toArray) (hlen : vs.length + ws.length ≤ 1000)
    (h : ∀ l h', (∀ p ∈ nw, p.1 < l) → Own g L h' m ((l, lstN (vs ++ ws) 0) :: nw) → Q (.ref l) { s with heap := h' }) : wpAny (MP w) A (binaryOp .Add (.ref a) (.ref b)) Q E s := by
  have sz : vs.length + ws.length ≤ sizeLine := by rw [sizeLine_eq]; omega
  refine add_lists O.lend.1 O.lend.2.1 ha hb (fun h' F N => h _ h' (fun q hq => O.fresh q hq) ?_) sz
  have old := O.lend.2.2 h' F fun p hp => N p (.tail _ hp)
  refine ⟨old.ns, old.keep, old.gL, fun p hp => ?_⟩
  rcases List.mem_cons.mp hp with rfl | hp
  · exact ⟨(N _ (.head _)).1, (N _ (.head _)).2.1, ((O.push (lstN [] 0)).nws _ (.head _)).2.2⟩
  · exact old.nws p hp

/-- two lists of texts that are alike -/
theorem strl_eqAt {A : Around} {vs ws : List Value} {xs : List (List Nat)} (hv : StrL vs xs) (hw : StrL ws xs) (j : Nat) (h1 : j < vs.toArray.size) (h2 : j < ws.toArray.size) : SeqAt.EqAt A s vs.toArray[j] ws.toArray[j] true := by
  obtain ⟨x, t, e1, e2⟩ := hv.at (i := j) (v := vs.toArray[j]) (by simp at h1; simp [h1])
  obtain ⟨t', e3⟩ := hw.get e2
  have e4 : ws.toArray[j] = .str (S x) t' := by simp at h2; simpa [h2] using e3
  rw [e1, e4]
  have := SeqAt.EqAt.str_str (A := A) (s := s) (S x) t (S x) t'
  rwa [beq_self_eq_true] at this
theorem neStrL {a b : Addr} {vs ws : List Value} {xs : List (List Nat)} (hu : A.units < cLine) (ha : s.heap.IsList a vs.toArray) (hb : s.heap.IsList b ws.toArray) (hv : StrL vs xs) (hw : StrL ws xs) (h : Q (.bool false) s) :
    wpAny (MP w) A (compareOp .NotEq (.ref a) (.ref b)) Q E s := by
  have hsz : vs.toArray.size = ws.toArray.size := by rw [List.size_toArray, List.size_toArray, hv.length, hw.length]
  refine SeqAt.RcNeAt.lists (e := fun _ => true) ha hb hsz hu (fun j h1 h2 => strl_eqAt hv hw j h1 h2) _ w E Q ?_
  have e : ((List.range vs.toArray.size).all fun _ => true) = true := by simp
  rw [e]; exact h
end
end Mine
namespace Mine
theorem stC4 {w : World} {A : Around} {E : Value → Shared → Prop} {s : Shared} {env : Env} {g : Heap} {L : Addr} {m : Str → Option Value} {z : Str} {c : Addr} {v : Value} {o : Obj} {v₀ : Option Value} {Q : Unit → Shared → Prop} {p1 p2 p3 p4 : Addr × Obj} {post : List (Addr × Obj)} (O : Own g L s.heap m (p1 :: p2 :: p3 :: p4 :: (c, o) :: post)) (hc : env.cells.lookup z = some c) (hd : o.data = .cell v₀) (hne : ∀ p ∈ p1 :: p2 :: p3 :: p4 :: post, p.1 ≠ c)
    (h : ∀ h' o', o'.data = .cell (some v) → Own g L h' m (p1 :: p2 :: p3 :: p4 :: (c, o') :: post) → Q () { s with heap := h' })
    (hk : env.scope.kind = .function := by rfl) (hx : env.kindOf z = some .cell := by rfl) : wpAny (MP w) A (storeName env z v) Q E s := stCp [p1, p2, p3, p4] post O hne hd hc h hk hx
end Mine
namespace Mine
theorem by_def {o : Option Obj} {P : List Stmt → Scope → Str → Prop} {name qual : Str} {params : Arguments} (body : List Stmt) (scope : Scope) {dV kV doc pm cdv ct oc : Value} {an od : Option Addr} {osl : Array (Option Value)}
   (ho : o = some ⟨oc, od, .func (fnOf name qual params body scope dV kV doc pm an cdv ct), osl⟩)
   {name' qual' : Str} {params' : Arguments} {body' : List Stmt} {scope' : Scope} {dV' kV' doc' pm' cdv' ct' oc' : Value} {an' od' : Option Addr} {osl' : Array (Option Value)}
   (ho' : o = some ⟨oc', od', .func (fnOf name' qual' params' body' scope' dV' kV' doc' pm' an' cdv' ct'), osl'⟩) (h : P body' scope' qual') : P body scope qual := by
  rw [ho] at ho'
  injection ho' with h2'
  injection h2' with q1 q2 q3 q4
  injection q3 with q3
  simp only [fnOf] at q3
  injection q3 with e1 e2 e3 e4 e5 e6
  injection e4 with e4
  subst e2 e4 e5
  exact h
end Mine
namespace Mine
theorem Room.less {n u n' u' : Nat} {A : Around} (r : Room n u A) (hn : n' ≤ n) (hu : u' ≤ u) : Room n' u' A := ⟨r.hh, by have := r.hd; omega, by have := r.hu; omega⟩
def wordAt (T : Int) (k : Nat) : Nat := ([97, 98, 65, 66] : List Nat).getD (T / 4 ^ k % 4).toNat 0
def wordF (T : Int) : List Nat := (List.range 5).map (wordAt T)
theorem wordF_len {T : Int} : (wordF T).length = 5 := by simp [wordF]
theorem wordAt_ltr {T : Int} {k : Nat} : Ltr (wordAt T k) := by
  unfold wordAt Ltr
  have h1 : 0 ≤ T / 4 ^ k % 4 := Int.emod_nonneg _ (by decide)
  have h2 : T / 4 ^ k % 4 < 4 := Int.emod_lt_of_pos _ (by decide)
  have : (T / 4 ^ k % 4).toNat = 0 ∨ (T / 4 ^ k % 4).toNat = 1 ∨ (T / 4 ^ k % 4).toNat = 2 ∨ (T / 4 ^ k % 4).toNat = 3 := by omega
  rcases this with e | e | e | e <;> rw [e] <;> simp
theorem wordF_ltr {T : Int} : ∀ c ∈ wordF T, Ltr c := fun c hc => by
  obtain ⟨k, _, rfl⟩ := List.mem_map.mp hc; exact wordAt_ltr
theorem wordF_flat {T : Int} : ((List.range 5).map fun k => [wordAt T k]).flatten = wordF T := by
  unfold wordF; rfl
end Mine
namespace Mine
theorem Own.add {g h h' : Heap} {L a : Addr} {m : Str → Option Value} {nw : List (Addr × Obj)} {vs : List Value} (O : Own g L h m nw) (st : Stay h h') (ha : h.get? a = none) (hl : h'.IsList a vs.toArray) :
    ∃ o, IsLst o vs ∧ (∀ p ∈ nw, p.1 ≠ a) ∧ Own g L h' m ((a, o) :: nw) := by
  obtain ⟨o, e, h1, h2⟩ := hl
  have O' := O.stay st
  have hne : ∀ b o', h.get? b = some o' → b ≠ a := fun b o' e' q => by rw [q, ha] at e'; cases e'
  refine ⟨o, ⟨h1, h2⟩, fun p hp => hne _ _ (O.nws p hp).1, O'.ns, O'.keep, O.gL, fun p hp => ?_⟩
  rcases List.mem_cons.mp hp with rfl | hp
  · obtain ⟨oL, _, _, eL, _⟩ := O.ns
    refine ⟨e, Ne.symm (hne _ _ eL), ?_⟩
    cases e' : g.get? a with
    | none => rfl
    | some o' => have := O.keep _ _ e'; rw [ha] at this; cases this
  · exact O'.nws p hp
theorem ints_at : ∀ {vs : List Value} {ns : List Int}, IntsAre vs ns → ∀ {i : Nat} {v : Value}, vs[i]? = some v → ∃ n t, v = .int n t ∧ ns[i]? = some n
  | _, _, .nil, _, _, h => by simp at h
  | _, _, .cons n t _, 0, _, h => by simp at h; subst h; exact ⟨n, t, rfl, rfl⟩
  | _, _, .cons _ _ r, i + 1, _, h => by simpa using ints_at r (by simpa using h)
theorem ints_get' : ∀ {vs : List Value} {ns : List Int}, IntsAre vs ns → ∀ {i : Nat} {n : Int}, ns[i]? = some n → ∃ t, vs[i]? = some (.int n t)
  | _, _, .nil, _, _, h => by simp at h
  | _, _, .cons n t _, 0, _, h => by simp at h; subst h; exact ⟨t, rfl⟩
  | _, _, .cons _ _ r, i + 1, _, h => by simpa using ints_get' r (by simpa using h)
theorem strl_ints {R : Value → Value → Prop} (f : Int → List Nat) : ∀ {vs ys : List Value} {ns : List Int}, IntsAre vs ns → Paired R vs ys → (∀ v y, R v y → ∃ (n : Int) (t t' : Tok), v = .int n t ∧ y = .str (S (f n)) t') → StrL ys (ns.map f)
  | _, _, _, .nil, .nil, _ => .nil
  | _, _, _, .cons n t h, .cons r p, hR => by
    obtain ⟨n', t1, t2, e1, rfl⟩ := hR _ _ r
    injection e1 with e1 _
    subst e1
    exact .cons _ _ (strl_ints f h p hR)
theorem piecesF_len5 {W : List Nat} {b : Nat} (h : W.length = 5) (i : Nat) : ((piecesF W b).getD i []).length ≤ 10 := by
  unfold piecesF
  rw [List.getD_eq_getElem?_getD, List.getElem?_map]
  cases (List.range (b + 2))[i]? with
  | none => simp
  | some k => simp only [Option.map_some, Option.getD_some, List.length_drop, List.length_take]; omega
end Mine
namespace Mine
theorem Own.drop23 {g h : Heap} {L : Addr} {m : Str → Option Value} {x y z : Addr × Obj} {rest : List (Addr × Obj)} (O : Own g L h m (x :: y :: z :: rest)) : Own g L h m (x :: rest) :=
  O.sub fun p hp => by
    rcases List.mem_cons.mp hp with rfl | hp
    · exact .head _
    · exact .tail _ (.tail _ (.tail _ hp))
theorem nums_own {g h : Heap} {L l : Addr} {m : Str → Option Value} {rest : List (Addr × Obj)} {vs : List Value} {ns : List Int} {a1 a2 a3 a4 a5 a6 : Int} {t1 t2 t3 t4 t5 t6 : Tok} {n : Nat} {k : Nat} (hk : k = 3) (hI : IntsAre vs ns)
   (O : Own g L h m ((l, lstN ([.int a1 t1, .int a2 t2, .int a3 t3, .int a4 t4, .int a5 t5, .int a6 t6] ++ vs.take k) n) :: rest)) : ∃ nv nums, IntsAre nv nums ∧ nums.length ≤ 9 ∧ Own g L h m ((l, lstN nv n) :: rest) :=
  ⟨_, [a1, a2, a3, a4, a5, a6] ++ ns.take 3, .cons _ _ (.cons _ _ (.cons _ _ (.cons _ _ (.cons _ _ (.cons _ _ (hk ▸ hI.take k)))))), by simp only [List.length_append, List.length_cons, List.length_nil, List.length_take]; omega, O⟩
end Mine
end
section
open PySem PySem.W PyProof.Rows PySem.Calls PySem.Builtin PySem.Builtin.Str
set_option Elab.async false
set_option maxRecDepth 100000
set_option maxHeartbeats 8000000
namespace Mine
section
variable {w : World} {A : Around} {E : Value → Shared → Prop} {s : Shared} {env : Env} {g : Heap} {L : Addr} {m : Str → Option Value} {nw : List (Addr × Obj)}
end
section
variable {w : World} {A : Around} {E : Value → Shared → Prop} {s : Shared} {g : Heap} {L a : Addr} {m : Str → Option Value} {Q : Value → Shared → Prop} {vs : List Value} {n : Nat}
theorem appendOp {v : Value} (pre post : List (Addr × Obj)) (F : Own g L s.heap m (pre ++ (a, lstN vs n) :: post)) (hne : ∀ p ∈ pre ++ post, p.1 ≠ a) (hsz : vs.length ≤ 1000000) (h : ∀ h' n', Own g L h' m (pre ++ (a, lstN (vs ++ [v]) n') :: post) → Q .none { s with heap := h' }) :
    wpAny (MP w) A (call (.builtin "list.append") [.ref a, v]) Q E s := by
  refine append_at (F.nws (a, lstN vs n) (List.mem_append_right _ (.head _))).1 (fun h' hs ho => h h' (n + 1) (F.updp pre post hne hs ?_)) (by rw [List.size_toArray, sizeLine_eq]; omega)
  rw [ho]; simp
theorem appendO2 {v : Value} {p1 p2 : Addr × Obj} {post : List (Addr × Obj)} (F : Own g L s.heap m (p1 :: p2 :: (a, lstN vs n) :: post)) (hne : ∀ p ∈ p1 :: p2 :: post, p.1 ≠ a) (hsz : vs.length ≤ 1000000) (h : ∀ h' n', Own g L h' m (p1 :: p2 :: (a, lstN (vs ++ [v]) n') :: post) → Q .none { s with heap := h' }) :
    wpAny (MP w) A (call (.builtin "list.append") [.ref a, v]) Q E s := appendOp [p1, p2] post F hne hsz h
end
/-- wants: which there are -/
theorem mem_rowW {ps : List (List Nat)} {j n : Nat} {x : List Nat} : x ∈ rowW ps j n ↔ ∃ i, i < n ∧ x = wantAt ps i j := by
  unfold rowW
  rw [List.mem_map]
  constructor
  · rintro ⟨i, hi, rfl⟩; exact ⟨i, List.mem_range.mp hi, rfl⟩
  · rintro ⟨i, hi, rfl⟩; exact ⟨i, List.mem_range.mpr hi, rfl⟩
theorem mem_wantsUp {ps : List (List Nat)} {x : List Nat} : ∀ {k : Nat}, x ∈ wantsUp ps k ↔ ∃ i j, i < j ∧ j < k + 1 ∧ x = wantAt ps i j
  | 0 => by
    constructor
    · intro h; cases h
    · rintro ⟨i, j, h1, h2, _⟩; omega
  | k + 1 => by
    rw [wantsUp, List.mem_append, mem_wantsUp (k := k), mem_rowW]
    constructor
    · rintro (⟨i, j, h1, h2, h3⟩ | ⟨i, h1, h2⟩)
      · exact ⟨i, j, h1, by omega, h3⟩
      · exact ⟨i, k + 1, h1, by omega, h2⟩
    · rintro ⟨i, j, h1, h2, h3⟩
      rcases Nat.lt_or_ge j (k + 1) with h | h
      · exact .inl ⟨i, j, h1, h, h3⟩
      · obtain rfl : j = k + 1 := by omega
        exact .inr ⟨i, h1, h3⟩
theorem map_S_inj : ∀ {a b : List (List Nat)}, a.map S = b.map S → a = b
  | [], [], _ => rfl
  | [], _ :: _, h => by simp at h
  | _ :: _, [], h => by simp at h
  | x :: a, y :: b, h => by
    rw [List.map_cons, List.map_cons] at h
    injection h with h1 h2
    rw [S_inj h1, map_S_inj h2]
theorem splits_inj {x y : List Nat} {ws ws' : List (List Nat)} (h : SplitsTo x y ws) (h' : SplitsTo x y ws') : ws = ws' := by
  have e := h.2.2.symm.trans h'.2.2
  exact map_S_inj e
theorem shape_inj {f b f' b' : Bool} {p q p' q' : List Nat} (hp : p ≠ []) (hq : q ≠ []) (_hp' : p' ≠ []) (_hq' : q' ≠ []) (h : shape f b p q = shape f' b' p' q') : f = f' ∧ b = b' ∧ p = p' ∧ q = q' := by
  cases f <;> cases b <;> cases f' <;> cases b' <;> simp [shape] at h ⊢ <;> simp_all
noncomputable def fitB (ps : List (List Nat)) (name want : List Nat) : Bool := @decide (∃ i j, i < j ∧ j < ps.length ∧ want = wantAt ps i j ∧ EmbAt ps name i j) (Classical.propDecidable _)
noncomputable def standB (ps : List (List Nat)) (name : List Nat) : Bool := @decide (Stands ps name) (Classical.propDecidable _)
theorem standB_iff {ps : List (List Nat)} {name : List Nat} : standB ps name = true ↔ Stands ps name := @decide_eq_true_iff _ (Classical.propDecidable _)
theorem fitB_iff {ps : List (List Nat)} {name want : List Nat} : fitB ps name want = true ↔ ∃ i j, i < j ∧ j < ps.length ∧ want = wantAt ps i j ∧ EmbAt ps name i j := @decide_eq_true_iff _ (Classical.propDecidable _)
theorem fit_any {ps : List (List Nat)} {name : List Nat} {k : Nat} (hk : ps.length = k + 1) : (wantsUp ps k).any (fitB ps name) = standB ps name := by
  rw [Bool.eq_iff_iff, standB_iff, List.any_eq_true, stands_iff]
  constructor
  · rintro ⟨x, _, hf⟩
    obtain ⟨i, j, h1, h2, _, h4⟩ := fitB_iff.mp hf
    exact ⟨i, j, h1, h2, h4⟩
  · rintro ⟨i, j, h1, h2, h3⟩
    exact ⟨wantAt ps i j, mem_wantsUp.mpr ⟨i, j, h1, by omega, rfl⟩, fitB_iff.mpr ⟨i, j, h1, h2, rfl, h3⟩⟩
/-- the pieces have letters -/
structure PsOk (ps : List (List Nat)) : Prop where
  ne : ∀ i, i < ps.length → ps.getD i [] ≠ []
  len : ∀ i, (ps.getD i []).length ≤ 10
  ltr : ∀ i, ∀ c ∈ ps.getD i [], Ltr c
theorem piecesF_good {W : List Nat} {b : Nat} (hW : W.length = 5) (hb : b < 4) (hL : ∀ c ∈ W, Ltr c) : PsOk (piecesF W b) := by
  refine ⟨fun i hi e => ?_, piecesF_len5 hW, fun i c hc => ?_⟩
  · rw [piecesF_len] at hi
    have h1 := congrArg List.length e
    rw [piecesF_get hi, List.length_take, List.length_drop, hW] at h1
    simp only [List.length_nil] at h1
    have hb' : b = 0 ∨ b = 1 ∨ b = 2 ∨ b = 3 := by omega
    have hi' : i = 0 ∨ i = 1 ∨ i = 2 ∨ i = 3 ∨ i = 4 := by omega
    unfold cut at h1
    rcases hb' with rfl | rfl | rfl | rfl <;> rcases hi' with rfl | rfl | rfl | rfl | rfl <;> omega
  · by_cases hi : i < b + 2
    · rw [piecesF_get hi] at hc
      exact hL c (List.mem_of_mem_drop (List.mem_of_mem_take hc))
    · rw [List.getD_eq_getElem?_getD, List.getElem?_eq_none (by rw [piecesF_len]; omega)] at hc
      cases hc
theorem want_len {ps : List (List Nat)} (G : PsOk ps) {i j : Nat} : (wantAt ps i j).length ≤ 100 := by
  have h1 := G.len i
  have h2 := G.len j
  unfold wantAt dots
  simp only [List.length_append]
  split <;> split <;> simp only [List.length_cons, List.length_nil] <;> omega
theorem fitB_at {ps : List (List Nat)} {name : List Nat} (G : PsOk ps) {i j : Nat} (hi : i < j) (hj : j < ps.length) : fitB ps name (wantAt ps i j) = ellF (decide (i = 0)) (decide (j + 1 = ps.length)) (ps.getD i []) (ps.getD j []) name := by
  rw [Bool.eq_iff_iff, ellF_iff, fitB_iff]
  constructor
  · rintro ⟨i', j', h1, h2, h3, h4⟩
    have s1 := (shape_ok (f := decide (i = 0)) (b := decide (j + 1 = ps.length)) (G.ltr i) (G.ltr j)).1
    have s2 := (shape_ok (f := decide (i' = 0)) (b := decide (j' + 1 = ps.length)) (G.ltr i') (G.ltr j')).1
    rw [← shape_want hj] at s1
    rw [← shape_want h2, ← h3] at s2
    obtain ⟨e1, e2, e3, e4⟩ := shape_inj (G.ne i (by omega)) (G.ne j hj) (G.ne i' (by omega)) (G.ne j' h2) (splits_inj s1 s2)
    rw [e1, e2, e3, e4]; exact h4
  · intro h; exact ⟨i, j, hi, hj, rfl, h⟩
/-- what is found -/
inductive PairL (prs : List (Addr × Obj)) (W : List Nat) : List Value → List (List Nat) → Prop
  | nil : PairL prs W [] []
  | cons (p : Addr) (t u : Tok) (n : Nat) (x : List Nat) {zs xs} : (p, lstN [.str (S x) t, .int (priceF W x) u] n) ∈ prs → PairL prs W zs xs → PairL prs W (.ref p :: zs) (x :: xs)
theorem PairL.more {prs prs' : List (Addr × Obj)} {W : List Nat} (h : ∀ p ∈ prs, p ∈ prs') : ∀ {zs xs}, PairL prs W zs xs → PairL prs' W zs xs
  | _, _, .nil => .nil
  | _, _, .cons p t u n x hm r => .cons p t u n x (h _ hm) (r.more h)
theorem PairL.snoc {prs : List (Addr × Obj)} {W : List Nat} {p : Addr} {t u : Tok} {n : Nat} {x : List Nat} (hm : (p, lstN [.str (S x) t, .int (priceF W x) u] n) ∈ prs) : ∀ {zs xs}, PairL prs W zs xs → PairL prs W (zs ++ [.ref p]) (xs ++ [x])
  | _, _, .nil => .cons p t u n x hm .nil
  | _, _, .cons p' t' u' n' x' hm' r => .cons p' t' u' n' x' hm' (r.snoc hm)
theorem PairL.length {prs : List (Addr × Obj)} {W : List Nat} : ∀ {zs xs}, PairL prs W zs xs → zs.length = xs.length
  | _, _, .nil => rfl
  | _, _, .cons _ _ _ _ _ _ r => by rw [List.length_cons, List.length_cons, r.length]
def nearB (W : List Nat) (b : Nat) (x : List Nat) : Bool := decide (priceF W x ≤ (b : Int))
theorem near_stand {W x : List Nat} {b : Nat} (hW : W.length = 5) (hb : b < 4) (h : nearB W b x = true) : standB (piecesF W b) x = true :=
  standB_iff.mpr (near_stands hW hb ((price_near (by omega)).mp (of_decide_eq_true h)))
theorem take_snoc {α : Type} {l : List α} {i : Nat} {x : α} (h : l[i]? = some x) : l.take (i + 1) = l.take i ++ [x] := by rw [List.take_add_one, h]; rfl
theorem filt_in {α : Type} {l : List α} {i : Nat} {x : α} {p : α → Bool} (h : l[i]? = some x) (hp : p x = true) : (l.take (i + 1)).filter p = (l.take i).filter p ++ [x] := by rw [take_snoc h, List.filter_append]; simp [hp]
theorem filt_out {α : Type} {l : List α} {i : Nat} {x : α} {p : α → Bool} (h : l[i]? = some x) (hp : p x = false) : (l.take (i + 1)).filter p = (l.take i).filter p := by rw [take_snoc h, List.filter_append]; simp [hp]
end Mine
namespace Mine
theorem msgF_len {name : List Nat} {number : Int} : (msgF name number).length ≤ name.length + 20 := by
  have hlp : (([[], [109, 46], [109, 46, 110, 46], [46, 46]] : List (List Nat)).getD (number / 1000000 % 4).toNat []).length ≤ 10 := by
    have : (number / 1000000 % 4).toNat = 0 ∨ (number / 1000000 % 4).toNat = 1 ∨ (number / 1000000 % 4).toNat = 2 ∨ (number / 1000000 % 4).toNat = 3 := by omega
    rcases this with e | e | e | e <;> rw [e] <;> decide
  have hlt : (([[], [58], [58, 32, 98, 46, 65], [10, 98, 58, 32, 65]] : List (List Nat)).getD (number / 4000000 % 4).toNat []).length ≤ 10 := by
    have : (number / 4000000 % 4).toNat = 0 ∨ (number / 4000000 % 4).toNat = 1 ∨ (number / 4000000 % 4).toNat = 2 ∨ (number / 4000000 % 4).toNat = 3 := by omega
    rcases this with e | e | e | e <;> rw [e] <;> decide
  unfold msgF
  rw [List.length_append, List.length_append]
  omega
end Mine
namespace Mine
theorem wantsUp_len {ps : List (List Nat)} : ∀ {k : Nat}, k ≤ 5 → (wantsUp ps k).length ≤ 30
  | 0, _ => Nat.zero_le _
  | 1, _ => by simp [wantsUp, rowW]
  | 2, _ => by simp [wantsUp, rowW]
  | 3, _ => by simp [wantsUp, rowW]
  | 4, _ => by simp [wantsUp, rowW]
  | 5, _ => by simp [wantsUp, rowW]
  | k + 6, h => by omega
theorem bools_of {R : Value → Value → Prop} (f : List Nat → Bool) : ∀ {vs ys : List Value} {xs : List (List Nat)}, StrL vs xs → Paired R vs ys → (∀ v y, R v y → ∃ (x : List Nat) (t : Tok), v = .str (S x) t ∧ y = .bool (f x)) → ys = (xs.map f).map .bool
  | _, _, _, .nil, .nil, _ => rfl
  | _, _, _, .cons x t h, .cons r p, hR => by
    obtain ⟨x', t', e1, rfl⟩ := hR _ _ r
    injection e1 with e1 _
    have := S_inj e1
    subst this
    rw [bools_of f h p hR]; rfl
end Mine
namespace Mine
def LcStop (p : Prop) : Prop := p
theorem lc_stop {p : Prop} (h : LcStop p) : p := h
theorem bool_at {bs : List Bool} {i : Nat} {v : Value} (h : (bs.map Value.bool)[i]? = some v) : ∃ c, v = .bool c := by
  rw [List.getElem?_map] at h
  cases e : bs[i]? with
  | none => rw [e] at h; cases h
  | some c => rw [e] at h; exact ⟨c, by simpa using h.symm⟩
theorem paired_nil {α β : Type} {F : α → β → Prop} {l : List β} (h : Paired F [] l) : l = [] := by cases h; rfl
end Mine
namespace Mine
theorem no_third {c : Bool} {P : Prop} (h1 : (c != true) = true) (h2 : (c != false) = true) : P := by cases c <;> simp at h1 h2
end Mine
namespace Mine
theorem Own.drop2 {g h : Heap} {L : Addr} {m : Str → Option Value} {x y : Addr × Obj} {rest : List (Addr × Obj)} (O : Own g L h m (x :: y :: rest)) : Own g L h m rest := O.sub fun p hp => .tail _ (.tail _ hp)
end Mine
namespace Mine
def isT : Value → Bool
  | .bool a => a == true
  | _ => false
theorem inBools {w : World} {A : Around} {E : Value → Shared → Prop} {s : Shared} {Q : Value → Shared → Prop} {D : Addr} {bs : List Bool} (hl : s.heap.IsList D (bs.map Value.bool).toArray) (h : Q (.bool (bs.any id)) s) :
    wpAny (MP w) A (compareOp .In (.bool true) (.ref D)) Q E s := by
  refine SeqAt.in_listAt isT hl (fun y hy => ?_) ?_
  · have hy' : y ∈ bs.map Value.bool := by simpa using hy
    obtain ⟨c, _, rfl⟩ := List.mem_map.mp hy'
    exact SeqAt.EqAt.bool_bool c true
  · have e : ((bs.map Value.bool).toArray.any isT) = bs.any id := by
      rw [List.any_toArray, List.any_map]
      congr 1
      funext c
      cases c <;> rfl
    rw [e]; exact h
theorem near_no {W x : List Nat} {b : Nat} (hW : W.length = 5) (hb : b < 4) (h : standB (piecesF W b) x = false) : nearB W b x = false := by
  cases h' : nearB W b x with
  | false => rfl
  | true => rw [near_stand hW hb h'] at h; cases h
theorem Own.drop1 {g h : Heap} {L : Addr} {m : Str → Option Value} {x : Addr × Obj} {rest : List (Addr × Obj)} (O : Own g L h m (x :: rest)) : Own g L h m rest := O.sub fun _ hp => .tail _ hp
end Mine
namespace Mine
theorem Own.rot {g h : Heap} {L : Addr} {m : Str → Option Value} {x a b c : Addr × Obj} {rest : List (Addr × Obj)} (O : Own g L h m (x :: a :: b :: c :: rest)) : Own g L h m (a :: b :: c :: x :: rest) := O.sub fun p hp => by
  simp only [List.mem_cons] at hp ⊢
  rcases hp with h | h | h | h | h
  · exact .inr (.inl h)
  · exact .inr (.inr (.inl h))
  · exact .inr (.inr (.inr (.inl h)))
  · exact .inl h
  · exact .inr (.inr (.inr (.inr h)))
end Mine
end
section
open PySem PySem.W PyProof.Rows PySem.Calls PySem.Builtin PySem.Builtin.Str
set_option Elab.async false
set_option maxRecDepth 100000
set_option maxHeartbeats 8000000
namespace Mine
section
variable {w : World} {A : Around} {s : Shared} {env : Env} {g : Heap} {L : Addr} {m : Str → Option Value} {nw : List (Addr × Obj)} {elt iter : PySem.Expr} {x : Str} {px : Pos} {ifs : List PySem.Expr} {scope : Scope} {cl : List (Str × Addr)} {pos : Pos}
theorem fin_someL {Qn : Shared → Prop} {y : Str} {py : Pos} {n : Nat} {P : Nat → Value → Prop} {p : Value → Bool} {F : Value → Value → List (Addr × Obj) → Prop}
    (h : ∀ D h' tk ys k (vs : List Value), (∀ q ∈ nw, q.1 ≠ D) → Own g L h' (upd m y (.ref D)) ((D, lstN ys k) :: nw) → vs.length = n → (∀ j v, vs[j]? = some v → P j v) → Paired (RelE D F h') (vs.filter p) ys → Qn { s with heap := h', toks := tk })
    (hF' : ∀ v z nw', F v z nw' → ∀ q ∈ nw', ∃ xs n, q.2 = lstN xs n)
    (hL : env.locals = L := by rfl) (hk : env.scope.kind = .function := by rfl) (hy : env.kindOf y = some .local := by rfl) :
    FinD g L m nw s n P p F (compPost (MP w) A NoE (some (assign (.Name y py) env)) (fun _ s' => Qn s')) := by
  intro D C h' tk m' ys k vs h1 hDC hLC hgC hn O hlen hP hF
  subst hL
  show wpAny _ A (assign (.Name y py) env (.ref D)) _ _ _
  have hqL : ∀ v z nw', F v z nw' → ∀ q ∈ nw', h'.get? q.1 = some q.2 → q.1 ≠ env.locals := fun v z nw' hf q hq e eq => by
    obtain ⟨xs, n, e2⟩ := hF' v z nw' hf q hq
    obtain ⟨o, es, ep, e3, e4, _⟩ := O.ns
    rw [eq, e3] at e
    have := Option.some.inj e
    rw [this, e2] at e4
    cases e4
  refine wpAny_assign_Name (wpAny_storeName_local hy O.ns (fun h₂ hn₂ hs₂ => ?_) (by rw [hk]; rfl))
  have O₂ := O.set hn₂ hs₂
  refine ⟨m', hn.sameBut hs₂ (Ne.symm hLC), fun h'' hs => ?_⟩
  have O' : Own g env.locals h'' (upd m y (.ref D)) ((D, lstN ys k) :: nw) := ⟨O₂.ns.sameBut hs hLC, fun b o e => hs.extBut b o (fun q => by rw [q, hgC] at e; cases e) (O₂.keep b o e), O.gL, fun q hq => ⟨hs.extBut _ _ (by
    rcases List.mem_cons.mp hq with rfl | hq
    · exact hDC
    · exact (h1 q hq).2) (O₂.nws q hq).1, (O₂.nws q hq).2⟩⟩
  exact h D h'' _ ys k vs (fun q hq => (h1 q hq).1) O' hlen hP (paired_up hF fun a b r => let ⟨nw', q, f⟩ := r; ⟨nw', fun z hz => ⟨hs.extBut _ _ (q z hz).2.1 (hs₂.extBut _ _ (hqL _ _ _ f z hz (q z hz).1) (q z hz).1), (q z hz).2.2.1⟩, f⟩)
end
noncomputable def pS (ps : List (List Nat)) : Value → Bool
  | .str x _ => standB ps x.cps.toList
  | _ => false
theorem pS_at {ps : List (List Nat)} {x : List Nat} {t : Tok} : pS ps (.str (S x) t) = standB ps x := rfl
theorem strl_filter {ps : List (List Nat)} : ∀ {vs : List Value} {xs : List (List Nat)}, StrL vs xs → StrL (vs.filter (pS ps)) (xs.filter (standB ps))
  | _, _, .nil => .nil
  | _, _, .cons x t h => by
    cases e : standB ps x with
    | true => rw [List.filter_cons_of_pos (by rw [pS_at]; exact e), List.filter_cons_of_pos e]; exact .cons x t (strl_filter h)
    | false => rw [List.filter_cons_of_neg (by rw [pS_at, e]; simp), List.filter_cons_of_neg (by rw [e]; simp)]; exact strl_filter h
theorem paired_same {R : Value → Value → Prop} : ∀ {vs ys : List Value}, Paired R vs ys → (∀ v y, R v y → y = v) → ys = vs
  | _, _, .nil, _ => rfl
  | _, _, .cons r p, h => by rw [h _ _ r, paired_same p h]
/-- pairs of a name and its price, in the heap -/
abbrev prO (W x : List Nat) (t u : Tok) (n : Nat) : Obj := lstN [.str (S x) t, .int (priceF W x) u] n
inductive PairH (h : Heap) (W : List Nat) : List Value → List (List Nat) → Prop
  | nil : PairH h W [] []
  | cons (p : Addr) (t u : Tok) (n : Nat) (x : List Nat) {zs xs} : h.get? p = some (prO W x t u n) → PairH h W zs xs → PairH h W (.ref p :: zs) (x :: xs)
theorem PairL.toH {prs : List (Addr × Obj)} {W : List Nat} {h : Heap} (hk : ∀ p ∈ prs, h.get? p.1 = some p.2) : ∀ {zs xs}, PairL prs W zs xs → PairH h W zs xs
  | _, _, .nil => .nil
  | _, _, .cons p t u n x hm r => .cons p t u n x (hk _ hm) (r.toH hk)
theorem PairH.stay {W : List Nat} {h h' : Heap} (hk : Stay h h') : ∀ {zs xs}, PairH h W zs xs → PairH h' W zs xs
  | _, _, .nil => .nil
  | _, _, .cons p t u n x hm r => .cons p t u n x (hk _ _ hm) (r.stay hk)
theorem PairH.length {W : List Nat} {h : Heap} : ∀ {zs xs}, PairH h W zs xs → zs.length = xs.length
  | _, _, .nil => rfl
  | _, _, .cons _ _ _ _ _ _ r => by rw [List.length_cons, List.length_cons, r.length]
theorem PairH.at {W : List Nat} {h : Heap} : ∀ {zs xs}, PairH h W zs xs → ∀ {i : Nat} {v : Value}, zs[i]? = some v → ∃ p t u n x, v = .ref p ∧ h.get? p = some (prO W x t u n) ∧ xs[i]? = some x
  | _, _, .nil, _, _, h => by simp at h
  | _, _, .cons p t u n x hm _, 0, _, h => by simp at h; subst h; exact ⟨p, t, u, n, x, rfl, hm, rfl⟩
  | _, _, .cons _ _ _ _ _ _ r, i + 1, _, h => by simpa using r.at (by simpa using h)
theorem PairH.get {W : List Nat} {h : Heap} : ∀ {zs xs}, PairH h W zs xs → ∀ {i : Nat} {x : List Nat}, xs[i]? = some x → ∃ p t u n, zs[i]? = some (.ref p) ∧ h.get? p = some (prO W x t u n)
  | _, _, .nil, _, _, h => by simp at h
  | _, _, .cons p t u n x hm _, 0, _, h => by simp at h; subst h; exact ⟨p, t, u, n, rfl, hm⟩
  | _, _, .cons _ _ _ _ _ _ r, i + 1, _, h => by simpa using r.get (by simpa using h)
noncomputable def pN (h : Heap) (W : List Nat) (b : Nat) (v : Value) : Bool := @decide (∃ p t u n x, v = .ref p ∧ h.get? p = some (prO W x t u n) ∧ nearB W b x = true) (Classical.propDecidable _)
theorem pN_at {h : Heap} {W : List Nat} {b : Nat} {p : Addr} {t u : Tok} {n : Nat} {x : List Nat} (hg : h.get? p = some (prO W x t u n)) : pN h W b (.ref p) = nearB W b x := by
  rw [Bool.eq_iff_iff]
  unfold pN
  rw [@decide_eq_true_iff _ (Classical.propDecidable _)]
  constructor
  · rintro ⟨p', t', u', n', x', e1, e2, e3⟩
    injection e1 with e1
    subst e1
    rw [hg] at e2
    have e4 := Option.some.inj e2
    unfold prO lstN at e4
    simp only [Obj.mk.injEq, Data.seq.injEq] at e4
    have e5 : ([.str (S x) t, .int (priceF W x) u] : List Value) = [.str (S x') t', .int (priceF W x') u'] := congrArg Array.toList e4.2.2.1.1
    injection e5 with e6 _
    injection e6 with e7 _
    have := S_inj e7
    rw [this]; exact e3
  · intro h'; exact ⟨p, t, u, n, x, rfl, hg, h'⟩
theorem pairh_filter {h : Heap} {W : List Nat} {b : Nat} : ∀ {zs : List Value} {xs : List (List Nat)}, PairH h W zs xs → PairH h W (zs.filter (pN h W b)) (xs.filter (nearB W b))
  | _, _, .nil => .nil
  | _, _, .cons p t u n x hm r => by
    cases e : nearB W b x with
    | true => rw [List.filter_cons_of_pos (by rw [pN_at hm]; exact e), List.filter_cons_of_pos e]; exact .cons p t u n x hm (pairh_filter r)
    | false => rw [List.filter_cons_of_neg (by rw [pN_at hm, e]; simp), List.filter_cons_of_neg (by rw [e]; simp)]; exact pairh_filter r
theorem prO_list {h : Heap} {W x : List Nat} {p : Addr} {t u : Tok} {n : Nat} (hg : h.get? p = some (prO W x t u n)) : h.IsList p [.str (S x) t, .int (priceF W x) u].toArray := ⟨_, hg, rfl, n, rfl⟩
theorem pair_eq {A : Around} {s : Shared} {W x : List Nat} {p p' : Addr} {t u t' u' : Tok} {n n' : Nat} (hu : A.units < cLine) (h1 : s.heap.get? p = some (prO W x t u n)) (h2 : s.heap.get? p' = some (prO W x t' u' n')) : SeqAt.EqAt A s (.ref p) (.ref p') true := by
  by_cases hp : p = p'
  · subst hp; exact SeqAt.EqAt.same _
  · refine SeqAt.EqAt.of_refs hp ?_
    have := SeqAt.RcAt.lists (A := A) (s := s) (e := fun _ => true) (prO_list h1) (prO_list h2) rfl hu (fun j h3 h4 => by
      have hj : j = 0 ∨ j = 1 := by simp at h3; omega
      rcases hj with rfl | rfl
      · have e := SeqAt.EqAt.str_str (A := A.in1) (s := s) (S x) t (S x) t'
        rwa [beq_self_eq_true] at e
      · have e := SeqAt.EqAt.int_int (A := A.in1) (s := s) (priceF W x) u (priceF W x) u'
        rwa [beq_self_eq_true] at e)
    exact this
theorem eqPairs {w : World} {A : Around} {E : Value → Shared → Prop} {s : Shared} {Q : Value → Shared → Prop} {W : List Nat} {a b : Addr} {zs ys : List Value} {xs : List (List Nat)} (hu : A.units < cLine) (hu1 : A.in1.units < cLine) (ha : s.heap.IsList a zs.toArray) (hb : s.heap.IsList b ys.toArray)
    (hz : PairH s.heap W zs xs) (hy : PairH s.heap W ys xs) (h : Q (.bool true) s) : wpAny (MP w) A (compareOp .Eq (.ref a) (.ref b)) Q E s := by
  have hsz : zs.toArray.size = ys.toArray.size := by rw [List.size_toArray, List.size_toArray, hz.length, hy.length]
  refine SeqAt.eq_listAt (e := fun _ => true) ha hb hsz hu (fun j h1 h2 => ?_) ?_
  · obtain ⟨p, t, u, n, x, e1, e2, e3⟩ := hz.at (i := j) (v := zs.toArray[j]) (by simp at h1; simp [h1])
    obtain ⟨p', t', u', n', e4, e5⟩ := hy.get e3
    have e6 : ys.toArray[j] = .ref p' := by simp at h2; simpa [h2] using e4
    rw [e1, e6]
    exact pair_eq hu1 e2 e5
  · have e : ((List.range zs.toArray.size).all fun _ => true) = true := by simp
    rw [e]; exact h
theorem in1_units {A : Around} : A.in1.units ≤ A.units + 3 := by unfold Around.in1; simp
end Mine
namespace Mine
theorem pairh_of {R : Value → Value → Prop} {h : Heap} {W : List Nat} : ∀ {vs ys : List Value} {xs : List (List Nat)}, StrL vs xs → Paired R vs ys → (∀ v y, R v y → ∃ (x : List Nat) (t t' u : Tok) (p : Addr) (n : Nat), v = .str (S x) t ∧ y = .ref p ∧ h.get? p = some (prO W x t' u n)) → PairH h W ys xs
  | _, _, _, .nil, .nil, _ => .nil
  | _, _, _, .cons x t h, .cons r p, hR => by
    obtain ⟨x', t1, t', u, q, n, e1, rfl, e3⟩ := hR _ _ r
    injection e1 with e1 _
    have := S_inj e1
    subst this
    exact .cons q t' u n x e3 (pairh_of h p hR)
theorem pairh_base {h g : Heap} {W : List Nat} {L : Addr} {m : Str → Option Value} (hn : h.Ns L m) (up : ∀ b o, h.get? b = some o → b ≠ L → g.get? b = some o) : ∀ {zs xs}, PairH h W zs xs → PairH g W zs xs
  | _, _, .nil => .nil
  | _, _, .cons p t u n x hm r => .cons p t u n x (up _ _ hm fun e => by
      obtain ⟨o, es, ep, e3, e4, _⟩ := hn
      rw [e, e3] at hm
      have := Option.some.inj hm
      rw [this] at e4
      cases e4) (pairh_base hn up r)
end Mine
end
section
open PySem PySem.W PyProof.Rows PySem.Calls
set_option Elab.async false
set_option maxRecDepth 100000
set_option maxHeartbeats 1500000
namespace Mine
local macro_rules | `(tactic| walk_at $s:str) => `(tactic| k_extra $s)
theorem laid1 : True := by
  k_with "lk" => with_reducible (first | exact upd_same | (with_reducible assumption) | (refine' upd_same.trans ?hval; (case hval => k_dflt rfl)) | (refine' upd_ne ?hne ?hrec; (case hne => decide); (case hrec => walk_at "lk")))
  k_with "loadName" => k_dflt ((rename Own _ _ _ _ _ => oF); refine' ldL oF ?k1 ?_; (case k1 => walk_at "lk"))
  k_with "fill" => (have ze0 : (Challenge.rw_ph0113_01.prog, Mine.hd.heap_39) = (Challenge.rw_ph0113_01.prog, Mine.hd.heap_39) := rfl; revert ze0; k_fill; intro ze0; clear ze0)
  k_with "enter" => (
  (case ho => k_is); (case hcd => k_is); (case hr => (rename Room _ _ _ => zhR; have zhR1 := zhR.hd; omega)); (case hb => rfl); (case hc => decide); (case hl => exact locs rfl); (case c1 => rfl); (case c2 => rfl); (case c3 => rfl); (case hm => rfl))
  k_with "hh" => first | (with_reducible assumption) | (rename Room _ _ _ => zhR; exact zhR.hh)
  k_with "newTuple" => k_dflt ((rename Own _ _ _ _ _ => oF); refine' newTupleO oF ?_; (clear oF); intro _ _ _ _)
  k_with "newList" => k_dflt ((rename Own _ _ _ _ _ => oF); refine' newListO oF ?_; (clear oF); intro _ _ _ _)
  k_with "unpackItems ref" => k_dflt ((rename Own _ _ _ _ _ => oF); refine' unpackO oF ?k1 ?k2 ?_; (case k1 => walk_at "hh"); (case k2 => rfl); (clear oF); intro _ _)
  k_with "sz" => first | (with_reducible assumption) | omega | (simp only [List.length_append, List.length_take, List.length_drop, List.length_cons, List.length_nil, List.length_reverse]; omega)
  k_with "num" => first | (with_reducible assumption) | decide | omega | (simp only [List.length_append, List.length_take, List.length_drop, List.length_cons, List.length_nil]; omega) | (simp only [List.length_append, List.length_take, List.length_drop, List.length_cons, List.length_nil, Int.toNat_natCast] at *; omega)
  k_with "numq" => first | (with_reducible assumption) | decide | omega
  k_with "lit" => first | exact L_nl | exact L_colon | exact L_dot | exact L_dots | exact L_abAB | exact L_e | exact L_m | exact L_mn | exact L_dd | exact L_cb | exact L_nb
  k_with "eval Constant str" => (refine' cst ?k1 ?_; (case k1 => walk_at "lit"))
  k_with "compareOp Eq str str" => refine eqS ?_
  k_with "compareOp NotEq str str" => refine neS ?_
  k_with "compareOp In str str" => refine inS ?_
  k_with "compareOp NotIn str str" => refine ninS ?_
  k_with "binaryOp Add str str" => (refine' addS ?k1 ?_; (case k1 => walk_at "sz"); intro _ _)
  k_with "call builtin:len" => (refine' lenS ?k1 ?_; (case k1 => walk_at "sz"))
  k_with "truthy str" => (refine' trS ?k1 ?_; (case k1 => walk_at "sz"))
  k_with "call builtin:str.startswith" => refine startsS ?_
  k_with "call builtin:str.endswith" => refine endsS ?_
  k_with "call builtin:str.find" => first | refine find2 ?_ | (refine' find4 ?k1 ?k2 ?_; (case k1 => walk_at "num"); (case k2 => walk_at "num"))
  k_with "call builtin:str.rfind" => (refine' rfind4 ?k1 ?k2 ?_; (case k1 => walk_at "num"); (case k2 => walk_at "num"))
  k_with "slice ss" => ((with_reducible show wpAny _ _ (subscriptTail _ (Expr.Slice (some _) (some _) none _) (Value.str (S _) _) _) _ _ _); with_reducible ((rename Own _ _ _ _ _ => oF); (refine' sl_ss (s := ⟨_, _, _, _, _⟩) oF ?k1 ?k2 ?k3 ?_; (case k1 => walk_at "numq"); (case k2 => walk_at "numq"); (case k3 => walk_at "sz")); (clear oF); intro _ _ _ _))
  k_with "slice sn" => ((with_reducible show wpAny _ _ (subscriptTail _ (Expr.Slice (some _) none none _) (Value.str (S _) _) _) _ _ _); with_reducible ((rename Own _ _ _ _ _ => oF); (refine' sl_sn (s := ⟨_, _, _, _, _⟩) oF ?k1 ?k3 ?_; (case k1 => walk_at "numq"); (case k3 => walk_at "sz")); (clear oF); intro _ _ _ _))
  k_with "slice ns" => ((with_reducible show wpAny _ _ (subscriptTail _ (Expr.Slice none (some _) none _) (Value.str (S _) _) _) _ _ _); with_reducible ((rename Own _ _ _ _ _ => oF); (first | (refine' sl_ns (s := ⟨_, _, _, _, _⟩) oF ?k1 ?k3 ?_; (case k1 => walk_at "numq"); (case k3 => walk_at "sz")) | (refine' sl_neg (s := ⟨_, _, _, _, _⟩) oF ?k1 ?k3 ?_; (case k1 => walk_at "numq"); (case k3 => walk_at "sz")) | (refine' sl_nn (s := ⟨_, _, _, _, _⟩) oF ?k3 ?_; (case k3 => walk_at "sz"))); (clear oF); intro _ _ _ _))
  k_with "slice" => first | walk_at "slice ss" | walk_at "slice sn" | walk_at "slice ns"
  k_with "sitem" => ((with_reducible show wpAny _ _ (subscriptTail _ _ (Value.str (S _) _) (Value.int _ _)) _ _ _); with_reducible (first
  | (refine' it_S ?k1 ?k2 ?k3 ?_; (case k1 => walk_at "numq"); (case k2 => walk_at "num"); (case k3 => walk_at "sz"))
  | (refine' it_Sneg ?k1 ?k2 ?k3 ?_; (case k1 => walk_at "numq"); (case k2 => walk_at "num"); (case k3 => walk_at "sz"))))
  k_with "subscriptTail" => first | walk_at "slice" | walk_at "sitem"
  k_with "subscriptTail Name Slice str ref" => walk_at "slice"
  k_with "subscriptTail Name Name str int" => walk_at "sitem"
  k_with "subscriptTail Name BinOp str int" => walk_at "sitem"
  k_with "subscriptTail Constant BinOp str int" => walk_at "sitem"
  k_with "isl" => ((rename Own _ _ _ _ _ => oF); with_reducible (first | exact isl_0 oF | exact isl_o1 oF (by with_reducible assumption) | exact isl_1 oF | exact isl_B (by with_reducible assumption) oF))
  k_with "call builtin:len" => ((with_reducible show wpAny _ _ (call (Value.builtin "len") [Value.ref _]) _ _ _); refine' lenO ?k0 ?k1 ?_; (case k0 => walk_at "isl"); (case k1 => (simp only [List.size_toArray, List.length_cons, List.length_nil]; omega)))
  k_with "subscriptTail" => k_dflt ((with_reducible show wpAny _ _ (subscriptTail _ _ (Value.ref _) (Value.int _ _)) _ _ _); first
  | (refine' itemO ?k0 ?k1 ?k2 ?k3 ?_; (case k0 => walk_at "isl"); (case k1 => walk_at "num"); (case k2 => walk_at "num"); (case k3 => first | (with_reducible assumption) | (simp; done) | (simp; rfl) | rfl))
  | (refine' itemOneg ?k0 ?k1 ?k2 ?k3 ?k4 ?_; (case k0 => walk_at "isl"); (case k1 => walk_at "num"); (case k2 => (simp only [List.size_toArray, List.length_cons, List.length_nil]; omega)); (case k3 => walk_at "num"); (case k4 => first | (with_reducible assumption) | (simp; done) | (simp; rfl) | rfl)))
  k_with "delete Subscript" => refine del_sub ?_
  k_with "delItem" => ((with_reducible show wpAny _ _ (delItem (Value.ref _) (Value.int 0 _)) _ _ _); k_dflt ((rename Own _ _ _ _ _ => oF); (refine' delO0 oF ?k1 ?k4 ?_; (case k1 => walk_at "nes"); (case k4 => walk_at "sz"); (clear oF); intro _ _ _)))
  k_with "delItem" => ((with_reducible show wpAny _ _ (delItem (Value.ref _) (Value.int (-1) _)) _ _ _); k_dflt ((rename Own _ _ _ _ _ => oF); (refine' delOl oF ?k1 ?k4 ?k5 ?_; (case k1 => walk_at "nes"); (case k4 => walk_at "sz"); (case k5 => walk_at "sz"); (clear oF); intro _ _ oF'; (try dsimp only [List.dropLast] at oF'))))
  k_with "subscriptTail" => ((with_reducible show wpAny _ _ (subscriptTail _ _ (Value.ref _) (Value.int 0 _)) _ _ _); k_dflt (refine' itemO0 ?k0 ?_; (case k0 => walk_at "isl")))
  k_with "subscriptTail" => ((with_reducible show wpAny _ _ (subscriptTail _ _ (Value.ref _) (Value.int (-1) _)) _ _ _); k_dflt (refine' itemOl ?k0 ?k1 ?k2 ?_; (case k0 => walk_at "isl"); (case k1 => walk_at "sz"); (case k2 => with_reducible (first | exact gl1 | exact gl2 | exact gl3 | exact gl4))))
  k_with "exec For" => refine for_here ?_
  k_with "call builtin:str.split" => k_dflt ((rename Own _ _ _ _ _ => oF); first
  | (refine' splitO2 oF ?k1 ?k2 ?k3 ?_; (case k3 => (with_reducible assumption)); (case k1 => walk_at "sz"); (case k2 => decide); (clear oF); intro _ _ _ _ _ _ _)
  | (refine' splitO3 oF ?k1 ?k2 ?k3 ?_; (case k3 => (with_reducible assumption)); (case k1 => walk_at "sz"); (case k2 => decide); (clear oF); intro _ _ _ _ _ _ _ _)
  | (refine' splitO4 oF ?k1 ?k2 ?k3 ?_; (case k3 => (with_reducible assumption)); (case k1 => walk_at "sz"); (case k2 => decide); (clear oF); intro _ _ _ _ _ _ _ _ _))
  k_with "bdec" => ((try simp only [decide_eq_true_eq, Bool.not_eq_true', decide_eq_false_iff_not, Bool.not_eq_true, Bool.not_eq_false, Bool.not_true, Bool.not_false, List.length_cons, List.length_nil, List.size_toArray, Bool.true_eq_false, Bool.false_eq_true, not_false_eq_true, Decidable.not_not, bne_iff_ne, ne_eq, beq_iff_eq]); first | done | (with_reducible assumption) | omega | (rename (_ : Bool) = true => zhb; rw [zhb]; done) | decide)
  k_with "ite" => first | (refine iteP ?k ?_; (case k => walk_at "bdec")) | (refine iteN ?k ?_; (case k => walk_at "bdec"))
  k_with "release" => refine wpAny_release ?_
  k_with "exec While" => refine while_here ?_
  k_with "call type:range" => k_dflt ((rename Own _ _ _ _ _ => oF); first
  | (refine' rng1O oF ?_; (clear oF); intro _ _ _ _ _ _ _ _)
  | (refine' rng2O oF ?_; (clear oF); intro _ _ _ _ _ _ _ _)
  | (refine' rng3O oF (by decide) (by decide) ?_; (clear oF); intro _ _ _ _ _ _ _ _))
  k_with "call builtin:min" => k_dflt ((rename Own _ _ _ _ _ => oF); refine' minO oF ?k1 ?_; (case k1 => walk_at "hh"); (clear oF); intro _ _ _ _)
  k_with "setItem" => k_dflt ((rename Own _ _ _ _ _ => oF); refine' setO oF ?k1 ?k2 ?k3 ?k4 ?k5 ?_; (case k2 => (with_reducible assumption)); (case k1 => walk_at "nes"); (case k3 => walk_at "num"); (case k4 => walk_at "num"); (case k5 => walk_at "num"); (clear oF); intro _ _ _ _)
  k_with "call type:list" => k_dflt ((rename Own _ _ _ _ _ => oF); refine' listRangeO oF ?k1 ?k2 ?k3 ?k4 ?k5 ?_; (case k1 => walk_at "hh"); (case k2 => (with_reducible assumption)); (case k4 => (with_reducible assumption)); (case k3 => (with_reducible assumption)); (case k5 => walk_at "num"); (clear oF); intro _ _ _ _ _ _ _ _)
  k_with "callWith ref" => k_dflt (refine' callWithO ?k1 ?k2 ?_; (case k1 => with_reducible assumption); (case k2 => k_is))
  k_with "And" => ((with_reducible show Stay _ _ ∧ _); (rename Own _ _ _ _ _ => oF); refine ⟨oF.keep, ?_⟩)
  k_with "litem" => ((with_reducible show wpAny _ _ (subscriptTail _ _ (Value.ref _) (Value.int _ _)) _ _ _); with_reducible (refine' itemO ?k0 ?k1 ?k2 ?k3 ?_; (case k0 => walk_at "isl"); (case k3 => with_reducible assumption); (case k1 => walk_at "numq"); (case k2 => walk_at "numq")))
  k_with "subscriptTail Name Name ref int" => walk_at "litem"
  k_with "setItem ref int" => with_reducible ((rename Own _ _ _ _ _ => oF); refine' setO oF ?k1 ?k2 ?k3 ?k4 ?k5 ?_; (case k2 => (with_reducible assumption)); (case k1 => walk_at "nes"); (case k3 => walk_at "numq"); (case k4 => walk_at "numq"); (case k5 => walk_at "num"); (clear oF); intro _ _ _ _)
  k_with "posq" => first | (with_reducible assumption) | decide | omega
  k_with "binaryOp FloorDiv int int" => (refine' fdO ?k1 ?k2 ?_; (case k1 => walk_at "posq"); (case k2 => walk_at "posq"))
  k_with "binaryOp Mod int int" => (refine' mdO ?k1 ?_; (case k1 => walk_at "posq"))
  k_with "binaryOp Pow int int" => (refine' pwO ?k1 ?k2 ?k3 ?_; (case k1 => walk_at "posq"); (case k2 => walk_at "posq"); (case k3 => walk_at "posq"))
  k_with "strs item" => with_reducible (first | (refine' itemS4 ?k0 ?k1 ?k2 ?_; (case k0 => walk_at "isl"); (case k1 => walk_at "numq"); (case k2 => walk_at "numq"); intro _) | (refine' itemS5 ?k0 ?k1 ?k2 ?_; (case k0 => walk_at "isl"); (case k1 => walk_at "numq"); (case k2 => walk_at "numq"); intro _))
  k_with "subscriptTail List" => walk_at "strs item"
  k_with "subscriptTail List BinOp ref int" => walk_at "strs item"
  k_with "subscriptTail List cons BinOp ref int" => walk_at "strs item"
  k_with "call builtin:str.swapcase" => (refine' swpS ?k1 ?k2 ?_; (case k2 => with_reducible assumption); (case k1 => walk_at "sz"))
  k_with "getMethod ref" => ((with_reducible show wpAny _ _ (getMethod (Value.ref _) _ _) _ _ _); (rename Own _ _ _ _ _ => oF); k_dflt (refine' methodO oF ?k1 ?_; (case k1 => first | exact .head _ | exact .tail _ (.head _))))
  k_with "call builtin:list.append" => (rename Own _ _ _ _ _ => oF; with_reducible (refine' appendO oF ?k1 ?k2 ?_; (case k1 => walk_at "nes"); (case k2 => walk_at "sz"); (clear oF); intro _ _ _))
  k_with "mem" => with_reducible (first | exact List.mem_cons_self | (refine List.mem_cons_of_mem _ ?kk; (case kk => walk_at "mem")))
  k_with "eval Name" => ((rename Own _ _ _ _ _ => oF); k_dflt (first
  | (refine' nmL oF ?k1 ?_; (case k1 => walk_at "lk"))
  | (refine' nmGS oF ?k1 ?k2 ?k3 ?_; (case k1 => with_reducible assumption); (case k2 => k_is); (case k3 => with_reducible (walk_at "lit")))
  | (refine' nmG oF ?k1 ?k2 ?_; (case k1 => with_reducible assumption); (case k2 => k_is))
  | (refine' nmB oF ?k1 ?k2 ?k3 ?k4 ?_; (case k1 => with_reducible assumption); (case k2 => k_is); (case k3 => boot_by_name); (case k4 => decide))
  | walk_at "eval Name cell"))
  k_with "stc" => ((case k1 => rfl); (case k2 => with_reducible assumption); (case k3 => walk_at "nes"))
  k_with "storeName" => k_dflt ((rename Own _ _ _ _ _ => oF); first
  | (refine' stL oF ?_; (clear oF); intro _ _)
  | (refine' stC0 oF ?k1 ?k2 ?k3 ?_; walk_at "stc"; (clear oF); intro _ _ _ _)
  | (refine' stC1 oF ?k1 ?k2 ?k3 ?_; walk_at "stc"; (clear oF); intro _ _ _ _)
  | (refine' stC2 oF ?k1 ?k2 ?k3 ?_; walk_at "stc"; (clear oF); intro _ _ _ _)
  | (refine' stC3 oF ?k1 ?k2 ?k3 ?_; walk_at "stc"; (clear oF); intro _ _ _ _)
  | (refine' stC4 oF ?k1 ?k2 ?k3 ?_; walk_at "stc"; (clear oF); intro _ _ _ _))
  k_with "call builtin:sum" => (rename Own _ _ _ _ _ => oF; refine' sumO oF ?k1 ?k2 ?k3 ?_; (case k1 => walk_at "hh"); (case k2 => walk_at "isl"); (case k3 => with_reducible assumption); (clear oF); intro _ _ _ _)
  k_with "nes" => first | exact List.forall_mem_nil _ | (with_reducible assumption) | (refine List.forall_mem_cons.mpr ⟨?n1, ?n2⟩; (case n1 => first | (with_reducible assumption) | (dsimp only; omega) | (dsimp only; show @Ne Nat _ _; omega)); (case n2 => walk_at "nes"))
  k_with "cell is" => (rename Own _ _ _ _ _ => oF; first | (refine' cell_B oF ?m1 ?m2; (case m1 => with_reducible assumption); (case m2 => with_reducible assumption)) | (refine' cell_N oF ?m1 ?m2; (case m1 => walk_at "mem"); (case m2 => with_reducible assumption)))
  k_with "eval Name cell" => k_dflt (refine' nmC ?k1 ?k2 ?_; (case k1 => rfl); (case k2 => walk_at "cell is"))
  k_with "unfolded" => ((try (rename Flow → Shared → Prop => zq9; clear zq9)); (try (rename Value → Shared → Prop => ze9; clear ze9)))
  k_with "execs cons" => ((with_reducible refine wpAny_execs_cons ?_); (try dsimp only); (try k_fold))
  trivial
local macro_rules | `(tactic| k_steps) => `(tactic| repeat' (first | (k_unfold; (try dsimp only); walk_at "unfolded") | walk1 | (dsimp only; walk1) | (leave1; (try dsimp only)) | fail "no step"))
theorem laid2 : True := by
  k_with "call builtin:str.lower" => (refine' lowS ?k0 ?_; (case k0 => assumption))
  trivial
theorem sub_spec {w : World} {A : Around} {s : Shared} {c d : Nat} {t u : Tok}
   {Q E : Value → Shared → Prop} (X : Amb w s.heap) (R : Room 1 40 A) (hc : Ltr c) (hd : Ltr d)
    (hQ : ∀ t h' tk, Stay s.heap h' → Q (.int (cost c d) t) { s with heap := h', toks := tk }) :
    wpAny (MP w) A (call (.ref 35) [.str (S [c]) t, .str (S [d]) u]) Q E s := by
  walk_at "fill"
  refine' enter [(Str.ofString "ch_a", .str (S [c]) t), (Str.ofString "ch_b", .str (S [d]) u)] (upd (upd (fun _ => none) (Str.ofString "ch_a") (.str (S [c]) t)) (Str.ofString "ch_b") (.str (S [d]) u)) X ?ho ?hcd ?hr ?hb ?hc ?hl ?c1 ?c2 ?c3 ?hm ?_
  walk_at "enter"
  rintro _ L h₁ tk rfl F X'
  clear X
  k_steps
  all_goals (try dsimp only)
  · exact retI hQ (by assumption) (cost0 (by assumption))
  · exact retI hQ (by assumption) (cost1 hc hd (by assumption) (by assumption))
  · exact retI hQ (by assumption) (cost2 hc hd (by assumption) (by assumption))
theorem laid3 : True := by
  k_with "call ref" => ((with_reducible show wpAny _ _ (call (Value.ref 35) _) _ _ _); k_dflt ((rename Own _ _ _ _ _ => oF); refine' sub_spec ?k1 ?k2 ?k3 ?k4 ?_; (case k1 => exact Amb.stay (by assumption) oF.keep); (case k2 => (rename Room _ _ _ => zhR; exact zhR.deeper (by decide) (by decide))); (case k3 => assumption); (case k4 => assumption); intro _ _ _ st'; (have oF' := oF.stay st'); clear oF))
  trivial
inductive LJ1 (a b : List Nat) (mc : Int) (k : Nat) (m : Str → Option Value) (nw : List (Addr × Obj)) : Prop
  | mk (h0 : nw = []) (p : Nat) (t1 t2 t3 t4 : Tok) (h1 : m (Str.ofString "pre") = some (.int p t1)) (h2 : m (Str.ofString "a") = some (.str (S a) t2)) (h3 : m (Str.ofString "b") = some (.str (S b) t3)) (h4 : m (Str.ofString "max_cost") = some (.int mc t4))
    (h5 : p ≤ a.length) (h6 : p ≤ b.length) (h7 : a.take p = b.take p) (h8 : k = a.length - p)
inductive LI1 (a b : List Nat) (mc : Int) (m : Str → Option Value) (nw : List (Addr × Obj)) : Prop
  | mk (h0 : nw = []) (p : Nat) (t1 t2 t3 t4 : Tok) (h1 : m (Str.ofString "pre") = some (.int p t1)) (h2 : m (Str.ofString "a") = some (.str (S a) t2)) (h3 : m (Str.ofString "b") = some (.str (S b) t3)) (h4 : m (Str.ofString "max_cost") = some (.int mc t4))
    (h5 : p ≤ a.length) (h6 : p ≤ b.length) (h7 : a.take p = b.take p)
inductive LJ2 (x y : List Nat) (mc : Int) (k : Nat) (m : Str → Option Value) (nw : List (Addr × Obj)) : Prop
  | mk (h0 : nw = []) (q : Nat) (t1 t2 t3 t4 : Tok) (h1 : m (Str.ofString "post") = some (.int (-(q : Int)) t1)) (h2 : m (Str.ofString "a") = some (.str (S x) t2)) (h3 : m (Str.ofString "b") = some (.str (S y) t3)) (h4 : m (Str.ofString "max_cost") = some (.int mc t4))
    (h5 : q ≤ x.length) (h6 : q ≤ y.length) (h7 : x.drop (x.length - q) = y.drop (y.length - q)) (h8 : k = x.length - q)
inductive LI2 (x y : List Nat) (mc : Int) (m : Str → Option Value) (nw : List (Addr × Obj)) : Prop
  | mk (h0 : nw = []) (q : Nat) (t1 t2 t3 t4 : Tok) (h1 : m (Str.ofString "post") = some (.int (-(q : Int)) t1)) (h2 : m (Str.ofString "a") = some (.str (S x) t2)) (h3 : m (Str.ofString "b") = some (.str (S y) t3)) (h4 : m (Str.ofString "max_cost") = some (.int mc t4))
    (h5 : q ≤ x.length) (h6 : q ≤ y.length) (h7 : x.drop (x.length - q) = y.drop (y.length - q))
inductive LI3 (x y : List Nat) (mc : Int) (m : Str → Option Value) (nw : List (Addr × Obj)) : Prop
  | mk (h0 : nw = []) (t2 t3 t4 : Tok) (h1 : m (Str.ofString "a") = some (.str (S x) t2)) (h2 : m (Str.ofString "b") = some (.str (S y) t3)) (h3 : m (Str.ofString "max_cost") = some (.int mc t4))
inductive LI4 (x y : List Nat) (mc : Int) (m : Str → Option Value) (nw : List (Addr × Obj)) : Prop
  | mk (h0 : nw = []) (t2 t3 t4 : Tok) (h1 : m (Str.ofString "a") = some (.str (S (if y.length < x.length then y else x)) t2)) (h2 : m (Str.ofString "b") = some (.str (S (if y.length < x.length then x else y)) t3)) (h3 : m (Str.ofString "max_cost") = some (.int mc t4)) (h4 : 0 < x.length) (h5 : 0 < y.length)
inductive LJ3 (pp qq : List Nat) (mc : Int) (ll : Addr) (i : Nat) (m : Str → Option Value) (nw : List (Addr × Obj)) : Prop
  | mk (o : Obj) (vs : List Value) (row : List Int) (r : Int) (t1 t2 t3 t4 : Tok) (h0 : nw = [(ll, o)]) (h1 : IsLst o vs) (h2 : IntsAre vs row) (h3 : row.length = pp.length)
    (h4 : m (Str.ofString "a") = some (.str (S pp) t1)) (h5 : m (Str.ofString "b") = some (.str (S qq) t2)) (h6 : m (Str.ofString "max_cost") = some (.int mc t3)) (h7 : m (Str.ofString "row") = some (.ref ll)) (h8 : m (Str.ofString "result") = some (.int r t4))
    (h9 : outerGo pp mc (qq.drop i) i row r = outerGo pp mc qq 0 (rangeInts 2 2 pp.length) 0)
inductive LJ4 (pp qq : List Nat) (mc : Int) (ll : Addr) (c i : Nat) (row : List Int) (j : Nat) (m : Str → Option Value) (nw : List (Addr × Obj)) : Prop
  | mk (o : Obj) (vs : List Value) (dn es : List Int) (d r mn : Int) (t1 t2 t3 t4 t5 t6 t7 : Tok) (h0 : nw = [(ll, o)]) (h1 : IsLst o vs) (h2 : IntsAre vs (dn ++ es)) (h3 : dn.length = j) (h4 : dn.length + es.length = pp.length)
    (h5 : m (Str.ofString "a") = some (.str (S pp) t1)) (h6 : m (Str.ofString "b") = some (.str (S qq) t2)) (h7 : m (Str.ofString "max_cost") = some (.int mc t3)) (h8 : m (Str.ofString "row") = some (.ref ll)) (h9 : m (Str.ofString "result") = some (.int r t4))
    (h10 : m (Str.ofString "bchar") = some (.str (S [c]) t5)) (h11 : m (Str.ofString "distance") = some (.int d t6)) (h12 : m (Str.ofString "minimum") = some (.int mn t7))
    (h13 : comb dn (innerGo c (pp.drop j) es d r mn) = innerGo c pp row ((i : Int) * 2) ((i : Int) * 2) MAXI)
theorem lev_spec {w : World} {A : Around} {s : Shared} {a b : List Nat} {mc : Int} {t u v : Tok}
   {Q E : Value → Shared → Prop} (X : Amb w s.heap) (R : Room 2 60 A) (ha : a.length ≤ 20) (hb : b.length ≤ 20) (hal : ∀ c ∈ a, Ltr c) (hbl : ∀ c ∈ b, Ltr c)
    (hQ : ∀ r t h' tk, Stay s.heap h' → LevRel a b mc r → Q (.int r t) { s with heap := h', toks := tk }) :
    wpAny (MP w) A (call (.ref 42) [.str (S a) t, .str (S b) u, .int mc v]) Q E s := by
  walk_at "fill"
  refine' enter [(Str.ofString "a", .str (S a) t), (Str.ofString "b", .str (S b) u), (Str.ofString "max_cost", .int mc v)] (upd (upd (upd (fun _ => none) (Str.ofString "a") (.str (S a) t)) (Str.ofString "b") (.str (S b) u)) (Str.ofString "max_cost") (.int mc v)) X ?ho ?hcd ?hr ?hb ?hc ?hl ?c1 ?c2 ?c3 ?hm ?_
  walk_at "enter"
  rintro _ L h₁ tk rfl F X'
  clear X
  k_steps
  all_goals (try dsimp only)
  · exact hQ _ _ _ _ (Own.keep (by assumption)) (.inl ⟨by assumption, rfl⟩)
  rename Own _ _ _ _ _ => O
  refine' while_cut (LJ1 a b mc) a.length
    (LI1 a b mc) O ?h0 ?turn ?after
  case h0 => exact ⟨rfl, 0, _, _, _, _, by walk_at "lk", by walk_at "lk", by walk_at "lk", by walk_at "lk", by omega, by omega, rfl, rfl⟩
  case turn =>
    rintro k m₁ nw₁ h tk ⟨rfl, p, t1, t2, t3, t4, h1, h2, h3, h4, h5, h6, h7, h8⟩ O₂
    clear O
    k_steps
    all_goals (try dsimp only [TurnEnd, CutEnd])
    all_goals simp only [Int.toNat_natCast, List.length_drop] at *
    · exact ⟨_, _, _, _, rfl, by assumption, a.length - (p + 1), by omega, rfl, p + 1, _, _, _, _, by walk_at "lk", by walk_at "lk", by walk_at "lk", by walk_at "lk", by omega, by omega, take_step (by omega) (by omega) h7 (by assumption), rfl⟩
    all_goals exact ⟨_, _, _, _, rfl, by assumption, rfl, p, _, _, _, _, by walk_at "lk", by walk_at "lk", by walk_at "lk", by walk_at "lk", h5, h6, h7⟩
  rintro h tk m₁ nw₁ O₂ ⟨rfl, p, t1, t2, t3, t4, h1, h2, h3, h4, h5, h6, h7⟩
  clear O
  have ha' : (a.drop p).length ≤ 20 := by rw [List.length_drop]; omega
  have hb' : (b.drop p).length ≤ 20 := by rw [List.length_drop]; omega
  k_steps
  rename Own _ _ _ _ _ => O
  simp only [Int.toNat_natCast] at O
  refine' while_cut (LJ2 (a.drop p) (b.drop p) mc) (a.drop p).length
    (LI2 (a.drop p) (b.drop p) mc) O ?h0b ?turnb ?afterb
  case h0b => exact ⟨rfl, 0, _, _, _, _, by walk_at "lk", by walk_at "lk", by walk_at "lk", by walk_at "lk", by omega, by omega, by rw [Nat.sub_zero, Nat.sub_zero, List.drop_length, List.drop_length], rfl⟩
  case turnb =>
    rintro k m₂ nw₂ h' tk' ⟨rfl, q, t1, t2, t3, t4, h1, h2, h3, h4, h5, h6, h8, h9⟩ O₂
    clear O
    generalize a.drop p = x at *
    generalize b.drop p = y at *
    k_steps
    all_goals (try dsimp only [TurnEnd, CutEnd])
    all_goals try simp only [Int.neg_neg, Int.toNat_natCast, List.length_take, show (-(-(q : Int) - 1)).toNat = q + 1 by omega] at *
    · exact ⟨_, _, _, _, rfl, by assumption, x.length - (q + 1), by omega, rfl, q + 1, _, _, _, _, upd_same.trans (congrArg (fun z => some (Value.int z _)) (show (-(q : Int) - 1) = -((q + 1 : Nat) : Int) by omega)), by walk_at "lk", by walk_at "lk", by walk_at "lk", by omega, by omega, drop_step (by omega) (by omega) h8 (by assumption), rfl⟩
    rotate_left 3
    · exact ⟨_, _, _, _, rfl, by assumption, x.length - (q + 1), by omega, rfl, q + 1, _, _, _, _, upd_same.trans (congrArg (fun z => some (Value.int z _)) (show (-(q : Int) - 1) = -((q + 1 : Nat) : Int) by omega)), by walk_at "lk", by walk_at "lk", by walk_at "lk", by omega, by omega, drop_step (by omega) (by omega) h8 (by assumption), rfl⟩
    all_goals exact ⟨_, _, _, _, rfl, by assumption, rfl, q, _, _, _, _, by walk_at "lk", by walk_at "lk", by walk_at "lk", by walk_at "lk", h5, h6, h8⟩
  rintro h tk m₁ nw₁ O₂ ⟨rfl, q, t1, t2, t3, t4, h1, h2, h3, h4, h8, h9, h10⟩
  clear O
  have hrel := levRel_of (mc := mc) h7 h10
  have hal' : ∀ c ∈ (a.drop p).take ((a.drop p).length - q), Ltr c := fun c hc => hal c (List.mem_of_mem_drop (List.mem_of_mem_take hc))
  have hbl' : ∀ c ∈ (b.drop p).take ((b.drop p).length - q), Ltr c := fun c hc => hbl c (List.mem_of_mem_drop (List.mem_of_mem_take hc))
  clear h7 h10 hal hbl
  dsimp only
  refine execs_cut (g := s.heap) (L := L) 2 (LI3 ((a.drop p).take ((a.drop p).length - q)) ((b.drop p).take ((b.drop p).length - q)) mc) ?_ ?_
  · dsimp only [List.take]
    k_steps
    all_goals (try dsimp only [CutEnd])
    · simp only [Int.neg_neg, Int.toNat_natCast] at *
      exact ⟨_, _, _, _, rfl, by assumption, rfl, _, _, _, by walk_at "lk", by walk_at "lk", by walk_at "lk"⟩
    · have hq0 : q = 0 := by omega
      subst hq0
      rw [Nat.sub_zero, Nat.sub_zero, List.take_length, List.take_length]
      exact ⟨_, _, _, _, rfl, by assumption, rfl, _, _, _, by walk_at "lk", by walk_at "lk", by walk_at "lk"⟩
  dsimp only [List.drop]
  rintro h' tk' m₂ nw₂ O₃ ⟨rfl, t2, t3, t4, h1, h2, h3⟩
  clear O₂
  have hx20 : ((a.drop p).take ((a.drop p).length - q)).length ≤ 20 := by rw [List.length_take]; omega
  have hy20 : ((b.drop p).take ((b.drop p).length - q)).length ≤ 20 := by rw [List.length_take]; omega
  generalize (a.drop p).take ((a.drop p).length - q) = x at *
  generalize (b.drop p).take ((b.drop p).length - q) = y at *
  clear ha' hb' h5 h6 h8 h9
  refine execs_cut (g := s.heap) (L := L) 3 (LI4 x y mc) ?_ ?_
  · dsimp only [List.take]
    k_steps
    all_goals (try dsimp only [CutEnd])
    · have hlt : y.length < x.length := by omega
      exact ⟨_, _, _, _, rfl, by assumption, rfl, _, _, _, by rw [if_pos hlt]; walk_at "lk", by rw [if_pos hlt]; walk_at "lk", by walk_at "lk", by assumption, by assumption⟩
    · have hlt : ¬ y.length < x.length := by omega
      exact ⟨_, _, _, _, rfl, by assumption, rfl, _, _, _, by rw [if_neg hlt]; walk_at "lk", by rw [if_neg hlt]; walk_at "lk", by walk_at "lk", by assumption, by assumption⟩
    · have hc : levCore x y mc = 2 * ((x.length : Int) + y.length) := by unfold levCore; rw [if_pos (.inr (List.length_eq_zero_iff.mp (by omega)))]
      rw [hc] at hrel
      exact hQ _ _ _ _ (Own.keep (by assumption)) hrel
    · have hc : levCore x y mc = 2 * ((x.length : Int) + y.length) := by unfold levCore; rw [if_pos (.inl (List.length_eq_zero_iff.mp (by omega)))]
      rw [hc] at hrel
      exact hQ _ _ _ _ (Own.keep (by assumption)) hrel
  dsimp only [List.drop]
  rintro h'' tk'' m₃ nw₃ O₄ ⟨rfl, t5, t6, t7, g1, g2, g3, hx0, hy0⟩
  clear O₃
  have hcore : levCore x y mc = if mc < (((if y.length < x.length then x else y).length : Int) - (if y.length < x.length then y else x).length) * 2 then mc + 1 else outerGo (if y.length < x.length then y else x) mc (if y.length < x.length then x else y) 0 (rangeInts 2 2 (if y.length < x.length then y else x).length) 0 := by
    unfold levCore
    rw [if_neg (by rintro (rfl | rfl) <;> simp at hx0 hy0)]
  have hp20 : (if y.length < x.length then y else x).length ≤ 20 := by split <;> omega
  have hq20 : (if y.length < x.length then x else y).length ≤ 20 := by split <;> omega
  have hp0 : 0 < (if y.length < x.length then y else x).length := by split <;> omega
  have hpl : ∀ c ∈ (if y.length < x.length then y else x), Ltr c := by split <;> assumption
  have hql : ∀ c ∈ (if y.length < x.length then x else y), Ltr c := by split <;> assumption
  rw [hcore] at hrel
  clear hcore hal' hbl' hx20 hy20 hx0 hy0
  generalize (if y.length < x.length then y else x) = pp at *
  generalize (if y.length < x.length then x else y) = qq at *
  have hsm : Builtin.Range.small 2 (2 * ((pp.length : Int) + 1)) 2 = true := small_two (by decide) (by decide) (by omega) (by omega)
  have hsz : Builtin.Range.rangeSize 2 (2 * ((pp.length : Int) + 1)) 2 = (pp.length : Nat) := by
    unfold Builtin.Range.rangeSize
    simp only [show (2 : Int) > 0 by decide, if_true]
    split <;> omega
  clear h1 h2 h3 h4
  k_steps
  all_goals (try dsimp only)
  · rename mc < _ => hlt
    rw [if_pos hlt] at hrel
    exact hQ _ _ _ _ (Own.keep (by assumption)) hrel
  rename ¬ mc < _ => hge
  rw [if_neg hge] at hrel
  rename Own _ _ _ _ _ => O
  rename IsRange _ _ _ _ _ _ _ _ => iR
  rename IntsAre _ _ => iI
  rename_i ll vs0 n0 _ _ _ _ _ _ _ _ _ _ _
  refine' for_range qq.length (LJ3 pp qq mc ll) R.hh O iR (by decide) (by decide) (by omega) (by omega) (by omega) ?f1 ?f2 ?f3 ?f4
  case f1 => exact ⟨_, _, _, _, _, _, _, _, rfl, isLst_N _ _, iI, rangeInts_length .., by walk_at "lk", by walk_at "lk", by walk_at "lk", by walk_at "lk", by walk_at "lk", rfl⟩
  case f2 => rintro i m' nw' ⟨o, vs, row, r, t1, t2, t3, t4, rfl, _⟩; rfl
  case f4 =>
    rintro m' nw' h tk ⟨o, vs, row, r, t1, t2, t3, t4, rfl, e1, e2, e3, e4, e5, e6, e7, e8, e9⟩ O'
    clear O
    rw [List.drop_length] at e9
    k_steps
    all_goals (try dsimp only)
    rw [← e9] at hrel
    exact hQ _ _ _ _ (Own.keep (by assumption)) hrel
  case f3 =>
    rintro i m' nw' g₁ h tk tx hi ⟨o, vs, row, r, t1, t2, t3, t4, rfl, e1, e2, e3, e4, e5, e6, e7, e8, e9⟩ kg O'
    clear O
    rw [Int.zero_add] at O'
    have hci : qq[i]? = some (qq.getD i 0) := by simp [List.getD, hi]
    have hcl : Ltr (qq.getD i 0) := hql _ (List.mem_of_getElem? hci)
    have hdr : qq.drop i = qq.getD i 0 :: qq.drop (i + 1) := drop_at' hci
    rw [hdr] at e9
    have X₁ : Amb w g₁ := X'.stay kg
    clear X'
    k_steps
    rename Own _ _ _ _ _ => O₂
    rename IsRange _ _ _ _ _ _ _ _ => iR₂
    simp only [Int.toNat_natCast] at O₂
    generalize qq.getD i 0 = c at *
    refine' for_range pp.length (LJ4 pp qq mc ll c i row) R.hh O₂ iR₂ (by decide) (by decide) (by omega) (by omega) (by omega) ?i1 ?i2 ?i3 ?i4
    case i1 => exact ⟨_, _, [], row, _, _, _, _, _, _, _, _, _, _, rfl, e1, e2, rfl, by rw [List.length_nil, Nat.zero_add]; exact e3, by walk_at "lk", by walk_at "lk", by walk_at "lk", by walk_at "lk", by walk_at "lk", by walk_at "lk", by walk_at "lk", by walk_at "lk", rfl⟩
    case i2 => rintro j m' nw' ⟨o, vs, dn, es, d, r, mn, t1, t2, t3, t4, t5, t6, t7, rfl, _⟩; rfl
    case i4 =>
      rintro m' nw' h tk ⟨o, vs, dn, es, d, r, mn, t1, t2, t3, t4, t5, t6, t7, rfl, d1, d2, d3, d4, d5, d6, d7, d8, d9, d10, d11, d12, d13⟩ O₃
      clear O₂
      obtain rfl : es = [] := List.length_eq_zero_iff.mp (by omega)
      rw [List.drop_length] at d13
      have hT := comb_end d13
      rw [List.append_nil] at d2
      clear d11 d13
      k_steps
      all_goals (try dsimp only [TurnEnd])
      · have hv := outer_stop hT e9 (by assumption)
        rw [hv] at hrel
        exact hQ _ _ _ _ (kg.tr (Own.keep (by assumption))) hrel
      · exact ⟨_, _, _, _, rfl, by assumption, _, _, dn, r, _, _, _, _, rfl, d1, d2, d3, by walk_at "lk", by walk_at "lk", by walk_at "lk", by walk_at "lk", by walk_at "lk", outer_step hT e9 (by assumption)⟩
    case i3 =>
      rintro j m' nw' g₂ h tk tx hj ⟨o, vs, dn, es, d, r, mn, t1, t2, t3, t4, t5, t6, t7, rfl, d1, d2, d3, d4, d5, d6, d7, d8, d9, d10, d11, d12, d13⟩ kg₂ O₃
      clear O₂
      rw [Int.zero_add] at O₃
      have hai : pp[j]? = some (pp.getD j 0) := by simp [List.getD, hj]
      have hal : Ltr (pp.getD j 0) := hpl _ (List.mem_of_getElem? hai)
      rw [drop_at' hai] at d13
      obtain ⟨e, es, rfl⟩ : ∃ e es', es = e :: es' := by
        cases es with
        | nil => simp at d4; omega
        | cons e es => exact ⟨e, es, rfl⟩
      obtain ⟨te, hte⟩ := d2.get j e (by rw [List.getElem?_append_right (by omega), d3, Nat.sub_self]; rfl)
      have hget : vs.toArray[((j : Int)).toNat]? = some (.int e te) := by simpa using hte
      have hvl : (j : Int) < vs.length := by rw [d2.length]; simp; omega
      have X₂ : Amb w g₂ := X₁.stay kg₂
      clear X₁
      have hal' : Ltr (pp.getD ((j : Int)).toNat 0) := hal
      k_steps
      all_goals (try dsimp only [TurnEnd])
      all_goals simp only [Int.toNat_natCast] at *
      · rename IsLst _ _ => iL
        exact ⟨_, _, _, _, rfl, by assumption, _, _, dn ++ [min (min r e + 2) (d + cost c (pp.getD j 0))], es, e, min (min r e + 2) (d + cost c (pp.getD j 0)), min (min r e + 2) (d + cost c (pp.getD j 0)), _, _, _, _, _, _, _, rfl, iL, set_row d2 d3, by rw [List.length_append, List.length_singleton, d3], by rw [List.length_append, List.length_singleton]; rw [List.length_cons] at d4; omega,
          by walk_at "lk", by walk_at "lk", by walk_at "lk", by walk_at "lk", by walk_at "lk", by walk_at "lk", by walk_at "lk", by walk_at "lk", comb_step d13 _ (if_pos (by assumption)).symm⟩
      · rename IsLst _ _ => iL
        exact ⟨_, _, _, _, rfl, by assumption, _, _, dn ++ [min (min r e + 2) (d + cost c (pp.getD j 0))], es, e, min (min r e + 2) (d + cost c (pp.getD j 0)), mn, _, _, _, _, _, _, _, rfl, iL, set_row d2 d3, by rw [List.length_append, List.length_singleton, d3], by rw [List.length_append, List.length_singleton]; rw [List.length_cons] at d4; omega,
          by walk_at "lk", by walk_at "lk", by walk_at "lk", by walk_at "lk", by walk_at "lk", by walk_at "lk", by walk_at "lk", by walk_at "lk", comb_step d13 _ (if_neg (by assumption)).symm⟩
inductive NJ1 (word : List Nat) (number : Int) (i : Nat) (m : Str → Option Value) (nw : List (Addr × Obj)) : Prop
  | mk (h0 : nw = []) (t1 t2 : Tok) (h1 : m (Str.ofString "name") = some (.str (S (nmAt word number i)) t1)) (h2 : m (Str.ofString "number") = some (.int number t2)) 
theorem name_spec {w : World} {A : Around} {s : Shared} {word : List Nat} {number : Int} {t u : Tok}
   {Q E : Value → Shared → Prop} (X : Amb w s.heap) (R : Room 1 40 A) (hw : word.length ≤ 20) (hl : ∀ c ∈ word, Ltr c)
    (hQ : ∀ t h' tk, Stay s.heap h' → Q (.str (S (nmAt word number 3)) t) { s with heap := h', toks := tk }) :
    wpAny (MP w) A (call (.ref 49) [.str (S word) t, .int number u]) Q E s := by
  walk_at "fill"
  refine' enter [(Str.ofString "word", .str (S word) t), (Str.ofString "number", .int number u)] (upd (upd (fun _ => none) (Str.ofString "word") (.str (S word) t)) (Str.ofString "number") (.int number u)) X ?ho ?hcd ?hr ?hb ?hc ?hl ?c1 ?c2 ?c3 ?hm ?_
  walk_at "enter"
  rintro _ L h₁ tk rfl F X'
  clear X
  k_steps
  rename Own _ _ _ _ _ => O
  rename IsRange _ _ _ _ _ _ _ _ => iR
  refine' for_range 3 (NJ1 word number) R.hh O iR (by decide) (by decide) (by decide) (by decide) (by decide) ?f1 ?f2 ?f3 ?f4
  case f1 => exact ⟨rfl, _, _, by walk_at "lk", by walk_at "lk"⟩
  case f2 => rintro i m' nw' ⟨rfl, _⟩; rfl
  case f4 =>
    rintro m' nw' h tk ⟨rfl, t1, t2, e1, e2⟩ O'
    clear O
    k_steps
    all_goals (try dsimp only)
    exact retS hQ (by assumption) rfl
  case f3 =>
    rintro i m' nw' g₁ h tk tx hi ⟨rfl, t1, t2, e1, e2⟩ kg O'
    clear O
    rw [Int.zero_add] at O'
    have X₁ : Amb w g₁ := X'.stay kg
    clear X'
    have hlen := nmAt_len (word := word) (number := number) i
    have hltr := nmAt_ltr (number := number) hl i
    have hp0 : (0 : Int) < 100 ^ ((i : Int)).toNat := Int.pow_pos (by decide)
    have hp1 : (100 : Int) ^ ((i : Int)).toNat < 1000000000 := by
      have : i = 0 ∨ i = 1 ∨ i = 2 := by omega
      rcases this with rfl | rfl | rfl <;> decide
    have hsw : ∀ c ∈ ((nmAt word number i).take (number / 100 ^ ((i : Int)).toNat % 100 / 5 % 5 + 1).toNat).drop (number / 100 ^ ((i : Int)).toNat % 100 / 5 % 5).toNat, Ltr c := fun c hc => hltr c (List.mem_of_mem_take (List.mem_of_mem_drop hc))
    have hsl : (((nmAt word number i).take (number / 100 ^ ((i : Int)).toNat % 100 / 5 % 5 + 1).toNat).drop (number / 100 ^ ((i : Int)).toNat % 100 / 5 % 5).toNat).length ≤ 1 := by
      rw [List.length_drop, List.length_take]; omega
    have hpk : ([(((nmAt word number i).take ((number / 100 ^ ((i : Int)).toNat % 100) / 5 % 5 + 1).toNat).drop ((number / 100 ^ ((i : Int)).toNat % 100) / 5 % 5).toNat), [], (([97, 98, 65, 66] : List Nat).getD ((number / 100 ^ ((i : Int)).toNat % 100) / 25).toNat 0) :: (((nmAt word number i).take ((number / 100 ^ ((i : Int)).toNat % 100) / 5 % 5 + 1).toNat).drop ((number / 100 ^ ((i : Int)).toNat % 100) / 5 % 5).toNat), [(([97, 98, 65, 66] : List Nat).getD ((number / 100 ^ ((i : Int)).toNat % 100) / 25).toNat 0)], (((nmAt word number i).take ((number / 100 ^ ((i : Int)).toNat % 100) / 5 % 5 + 1).toNat).drop ((number / 100 ^ ((i : Int)).toNat % 100) / 5 % 5).toNat).map swp].getD ((number / 100 ^ ((i : Int)).toNat % 100) % 5).toNat []).length ≤ 5 := by
      have : ((number / 100 ^ ((i : Int)).toNat % 100) % 5).toNat = 0 ∨ ((number / 100 ^ ((i : Int)).toNat % 100) % 5).toNat = 1 ∨ ((number / 100 ^ ((i : Int)).toNat % 100) % 5).toNat = 2 ∨ ((number / 100 ^ ((i : Int)).toNat % 100) % 5).toNat = 3 ∨ ((number / 100 ^ ((i : Int)).toNat % 100) % 5).toNat = 4 := by omega
      rcases this with e | e | e | e | e <;> rw [e] <;> simp only [List.getD_cons_zero, List.getD_cons_succ, List.length_nil, List.length_cons, List.length_map] <;> omega
    k_steps
    all_goals (try dsimp only [TurnEnd])
    rename Own _ _ _ _ _ => O₂
    refine ⟨_, _, _, _, rfl, O₂.sub (nw' := []) (fun _ h => nomatch h), rfl, _, _, upd_same.trans (congrArg (fun z => some (Value.str (S z) _)) ?_), by walk_at "lk"⟩
    have hf0 : 0 ≤ (number / 100 ^ ((i : Int)).toNat % 100) := Int.emod_nonneg _ (by decide)
    simp only [Int.toNat_natCast] at hf0 ⊢
    generalize hfg : number / 100 ^ i % 100 = fg at *
    show _ = nstep (nmAt word number i) (number / 100 ^ i % 100).toNat
    rw [hfg]
    obtain ⟨f, rfl⟩ := Int.eq_ofNat_of_zero_le hf0
    unfold nstep
    have q1 : (((f : Int) / 5 % 5)).toNat = f / 5 % 5 := by omega
    have q2 : (((f : Int) / 5 % 5 + 1)).toNat = f / 5 % 5 + 1 := by omega
    have q3 : (((f : Int) / 25)).toNat = f / 25 := by omega
    have q4 : (((f : Int) % 5)).toNat = f % 5 := by omega
    have q5 : ((f : Int)).toNat = f := by omega
    rw [q1, q2, q3, q4, q5]
    rfl
theorem msg_spec {w : World} {A : Around} {s : Shared} {name : List Nat} {number : Int} {t u : Tok}
   {Q E : Value → Shared → Prop} (X : Amb w s.heap) (R : Room 1 40 A) (hw : name.length ≤ 20)
    (hQ : ∀ t h' tk, Stay s.heap h' → Q (.str (S (msgF name number)) t) { s with heap := h', toks := tk }) :
    wpAny (MP w) A (call (.ref 56) [.str (S name) t, .int number u]) Q E s := by
  walk_at "fill"
  refine' enter [(Str.ofString "name", .str (S name) t), (Str.ofString "number", .int number u)] (upd (upd (fun _ => none) (Str.ofString "name") (.str (S name) t)) (Str.ofString "number") (.int number u)) X ?ho ?hcd ?hr ?hb ?hc ?hl ?c1 ?c2 ?c3 ?hm ?_
  walk_at "enter"
  rintro _ L h₁ tk rfl F X'
  clear X
  have hlp : (([[], [109, 46], [109, 46, 110, 46], [46, 46]] : List (List Nat)).getD (number / 1000000 % 4).toNat []).length ≤ 10 := by
    have : (number / 1000000 % 4).toNat = 0 ∨ (number / 1000000 % 4).toNat = 1 ∨ (number / 1000000 % 4).toNat = 2 ∨ (number / 1000000 % 4).toNat = 3 := by omega
    rcases this with e | e | e | e <;> rw [e] <;> decide
  have hlt : (([[], [58], [58, 32, 98, 46, 65], [10, 98, 58, 32, 65]] : List (List Nat)).getD (number / 4000000 % 4).toNat []).length ≤ 10 := by
    have : (number / 4000000 % 4).toNat = 0 ∨ (number / 4000000 % 4).toNat = 1 ∨ (number / 4000000 % 4).toNat = 2 ∨ (number / 4000000 % 4).toNat = 3 := by omega
    rcases this with e | e | e | e <;> rw [e] <;> decide
  k_steps
  all_goals (try dsimp only)
  exact retS hQ (by assumption) rfl
inductive WJ1 (ps : List (List Nat)) (wa pa : Addr) (k : Nat) (m : Str → Option Value) (nw : List (Addr × Obj)) : Prop
  | mk (vs : List Value) (n : Nat) (h0 : nw = [(wa, lstN vs n)]) (h1 : StrL vs (wantsUp ps k)) (h2 : vs.length ≤ 5 * k) (h3 : m (Str.ofString "wants") = some (.ref wa)) (h4 : m (Str.ofString "pieces") = some (.ref pa)) 
inductive WJ2 (ps : List (List Nat)) (wa pa : Addr) (k i : Nat) (m : Str → Option Value) (nw : List (Addr × Obj)) : Prop
  | mk (vs : List Value) (n : Nat) (h0 : nw = [(wa, lstN vs n)]) (h1 : StrL vs (wantsUp ps k ++ rowW ps (k + 1) i)) (h2 : vs.length ≤ 5 * k + i) (h3 : m (Str.ofString "wants") = some (.ref wa)) (h4 : m (Str.ofString "pieces") = some (.ref pa)) (t : Tok) (h5 : m (Str.ofString "j") = some (.int (1 + (k : Int)) t)) 
theorem wants_spec {w : World} {A : Around} {s : Shared} {pa : Addr} {items : List Value} {ps : List (List Nat)}
   {Q E : Value → Shared → Prop} (X : Amb w s.heap) (R : Room 1 40 A) (hpa : s.heap.IsList pa items.toArray) (hps : StrL items ps) (hn : ps.length ≤ 5) (hn0 : 1 ≤ ps.length) (hpl : ∀ i, (ps.getD i []).length ≤ 10)
    (hQ : ∀ a vs h' tk, Stay s.heap h' → s.heap.get? a = none → h'.IsList a vs.toArray → StrL vs (wantsUp ps (ps.length - 1)) → Q (.ref a) { s with heap := h', toks := tk }) :
    wpAny (MP w) A (call (.ref 68) [.ref pa]) Q E s := by
  walk_at "fill"
  refine' enter [(Str.ofString "pieces", .ref pa)] (upd (fun _ => none) (Str.ofString "pieces") (.ref pa)) X ?ho ?hcd ?hr ?hb ?hc ?hl ?c1 ?c2 ?c3 ?hm ?_
  walk_at "enter"
  rintro _ L h₁ tk rfl F X'
  clear X
  have hil : items.length = ps.length := hps.length
  have hil5 : items.length ≤ 5 := by omega
  k_steps
  rename Own _ _ _ _ _ => O
  rename IsRange _ _ _ _ _ _ _ _ => iR
  rename_i wa _ _ _ _ _ _ _ _ _
  have hsz : items.toArray.size = ps.length := by rw [List.size_toArray, hil]
  refine' for_range (ps.length - 1) (WJ1 ps wa pa) R.hh O iR (by decide) (by decide) (by omega) (by omega) (by omega) ?f1 ?f2 ?f3 ?f4
  case f1 => exact ⟨[], 0, rfl, .nil, Nat.le_refl _, by walk_at "lk", by walk_at "lk"⟩
  case f2 => rintro k m' nw' ⟨vs, n, rfl, _⟩; rfl
  case f4 =>
    rintro m' nw' h tk ⟨vs, n, rfl, e1, e2, e3, e4⟩ O'
    clear O
    k_steps
    all_goals (try dsimp only)
    rename Own _ _ _ _ _ => O₂
    exact hQ _ vs _ _ O₂.keep (O₂.nws _ (.head _)).2.2 (isl_0 O₂) e1
  case f3 =>
    rintro k m' nw' g₁ h tk tx hk ⟨vs, n, rfl, e1, e2, e3, e4⟩ kg O'
    clear O
    have X₁ : Amb w g₁ := X'.stay kg
    clear X'
    have hpa₁ : g₁.IsList pa items.toArray := hpa.at fun o e => kg _ o e
    k_steps
    rename Own _ _ _ _ _ => O₂
    rename IsRange _ _ _ _ _ _ _ _ => iR₂
    refine' for_range (k + 1) (WJ2 ps wa pa k) R.hh O₂ iR₂ (by decide) (by decide) (by omega) (by omega) (by omega) ?i1 ?i2 ?i3 ?i4
    case i1 => exact ⟨vs, n, rfl, by rw [rowW_zero, List.append_nil]; exact e1, by omega, by walk_at "lk", by walk_at "lk", _, by walk_at "lk"⟩
    case i2 => rintro k m' nw' ⟨vs, n, rfl, _⟩; rfl
    case i4 =>
      rintro m' nw' h tk ⟨vs, n, rfl, e1, e2, e3, e4, _⟩ O₃
      clear O₂
      k_steps
      all_goals (try dsimp only [TurnEnd])
      exact ⟨_, _, _, _, rfl, by assumption, vs, n, rfl, e1, by omega, by walk_at "lk", by walk_at "lk"⟩
    case i3 =>
      rintro i m' nw' g₂ h tk tx hi ⟨vs, n, rfl, e1, e2, e3, e4, tj, e5⟩ kg₂ O₃
      clear O₂
      rw [Int.zero_add] at O₃
      have X₂ : Amb w g₂ := X₁.stay kg₂
      have hpa₂ : g₂.IsList pa items.toArray := hpa₁.at fun o e => kg₂ _ o e
      clear X₁ hpa₁
      obtain ⟨ti, hgi⟩ := piece_at hps (k := (i : Int)) (i := i) (by omega) (by omega)
      obtain ⟨tj', hgj⟩ := piece_at hps (k := 1 + (k : Int)) (i := k + 1) (by omega) (by omega)
      have hli := hpl i
      have hlj := hpl (k + 1)
      k_steps
      all_goals (try dsimp only [TurnEnd])
      all_goals rw [hsz] at *
      · have c1 : 0 < i := by omega
        have c2 : k + 1 + 1 < ps.length := by omega
        refine ⟨_, _, _, _, rfl, by assumption, _, _, rfl, snoc_want e1 ?_, by rw [List.length_append, List.length_singleton]; omega, by walk_at "lk", by walk_at "lk", _, by walk_at "lk"⟩
        simp [wantAt, dots, c1, c2]
      · have c1 : 0 < i := by omega
        have c2 : ¬ k + 1 + 1 < ps.length := by omega
        refine ⟨_, _, _, _, rfl, by assumption, _, _, rfl, snoc_want e1 ?_, by rw [List.length_append, List.length_singleton]; omega, by walk_at "lk", by walk_at "lk", _, by walk_at "lk"⟩
        simp [wantAt, dots, c1, c2]
      · have c1 : ¬ 0 < i := by omega
        have c2 : k + 1 + 1 < ps.length := by omega
        refine ⟨_, _, _, _, rfl, by assumption, _, _, rfl, snoc_want e1 ?_, by rw [List.length_append, List.length_singleton]; omega, by walk_at "lk", by walk_at "lk", _, by walk_at "lk"⟩
        simp [wantAt, dots, c1, c2]
      · have c1 : ¬ 0 < i := by omega
        have c2 : ¬ k + 1 + 1 < ps.length := by omega
        refine ⟨_, _, _, _, rfl, by assumption, _, _, rfl, snoc_want e1 ?_, by rw [List.length_append, List.length_singleton]; omega, by walk_at "lk", by walk_at "lk", _, by walk_at "lk"⟩
        simp [wantAt, dots, c1, c2]
inductive SJ1 (ps : List (List Nat)) (name : List Nat) (pa : Addr) (q : Nat) (m : Str → Option Value) (nw : List (Addr × Obj)) : Prop
  | mk (h0 : nw = []) (h1 : m (Str.ofString "pieces") = some (.ref pa)) (h2 : (∃ t, m (Str.ofString "name") = some (.str (S name) t))) (h3 : ∀ j i k, 1 ≤ j → j < q + 1 → i < j → k ≤ name.length → condA ps name i k = true → condB ps name j k = true → False) 
inductive SJ2 (ps : List (List Nat)) (name : List Nat) (pa : Addr) (q r : Nat) (m : Str → Option Value) (nw : List (Addr × Obj)) : Prop
  | mk (h0 : nw = []) (h1 : m (Str.ofString "pieces") = some (.ref pa)) (h2 : (∃ t, m (Str.ofString "name") = some (.str (S name) t))) (h3 : (∃ t, m (Str.ofString "j") = some (.int (1 + (q : Int)) t))) (h4 : ∀ i k, i < r → k ≤ name.length → condA ps name i k = true → condB ps name (q + 1) k = true → False) 
inductive SJ3 (ps : List (List Nat)) (name : List Nat) (pa : Addr) (q i r : Nat) (m : Str → Option Value) (nw : List (Addr × Obj)) : Prop
  | mk (h0 : nw = []) (h1 : m (Str.ofString "pieces") = some (.ref pa)) (h2 : (∃ t, m (Str.ofString "name") = some (.str (S name) t))) (h3 : (∃ t, m (Str.ofString "j") = some (.int (1 + (q : Int)) t))) (h4 : (∃ t, m (Str.ofString "i") = some (.int (i : Int) t))) (h5 : ∀ k, k < r → condA ps name i k = true → condB ps name (q + 1) k = true → False) 
theorem stands_spec {w : World} {A : Around} {s : Shared} {pa : Addr} {items : List Value} {ps : List (List Nat)} {name : List Nat} {t : Tok}
   {Q E : Value → Shared → Prop} (X : Amb w s.heap) (R : Room 1 40 A) (hpa : s.heap.IsList pa items.toArray) (hps : StrL items ps) (hn : ps.length ≤ 5) (hn0 : 1 ≤ ps.length) (hpl : ∀ i, (ps.getD i []).length ≤ 10) (hnm : name.length ≤ 20)
    (hQ : ∀ b h' tk, Stay s.heap h' → (b = true ↔ Stands ps name) → Q (.bool b) { s with heap := h', toks := tk }) :
    wpAny (MP w) A (call (.ref 75) [.ref pa, .str (S name) t]) Q E s := by
  walk_at "fill"
  refine' enter [(Str.ofString "pieces", .ref pa), (Str.ofString "name", .str (S name) t)] (upd (upd (fun _ => none) (Str.ofString "pieces") (.ref pa)) (Str.ofString "name") (.str (S name) t)) X ?ho ?hcd ?hr ?hb ?hc ?hl ?c1 ?c2 ?c3 ?hm ?_
  walk_at "enter"
  rintro _ L h₁ tk rfl F X'
  clear X
  have hil : items.length = ps.length := hps.length
  have hil5 : items.length ≤ 5 := by omega
  k_steps
  rename Own _ _ _ _ _ => O
  rename IsRange _ _ _ _ _ _ _ _ => iR
  have hsz : items.toArray.size = ps.length := by rw [List.size_toArray, hil]
  refine' for_range (ps.length - 1) (SJ1 ps name pa) R.hh O iR (by decide) (by decide) (by omega) (by omega) (by omega) ?f1 ?f2 ?f3 ?f4
  case f1 => exact ⟨rfl, by walk_at "lk", ⟨_, by walk_at "lk"⟩, fun j i k h1 h2 => by omega⟩
  case f2 => rintro k m' nw' ⟨rfl, _⟩; rfl
  case f4 =>
    rintro m' nw' h tk ⟨rfl, e1, ⟨t1, e2⟩, e3⟩ O'
    clear O
    k_steps
    all_goals (try dsimp only)
    refine hQ _ _ _ (Own.keep (by assumption)) (Iff.intro (fun h => by cases h) (fun ⟨j, i, k, h1, h2, h3, h4, h5, h6⟩ => (e3 j i k h1 (by omega) h3 h4 h5 h6).elim))
  case f3 =>
    rintro q m' nw' g₁ h tk tx hq ⟨rfl, e1, ⟨t1, e2⟩, e3⟩ kg O'
    clear O
    have X₁ : Amb w g₁ := X'.stay kg
    clear X'
    have hpa₁ : g₁.IsList pa items.toArray := hpa.at fun o e => kg _ o e
    k_steps
    rename Own _ _ _ _ _ => O₂
    rename IsRange _ _ _ _ _ _ _ _ => iR₂
    refine' for_range (q + 1) (SJ2 ps name pa q) R.hh O₂ iR₂ (by decide) (by decide) (by omega) (by omega) (by omega) ?i1 ?i2 ?i3 ?i4
    case i1 => exact ⟨rfl, by walk_at "lk", ⟨_, by walk_at "lk"⟩, ⟨_, by walk_at "lk"⟩, fun i k h1 => by omega⟩
    case i2 => rintro k m' nw' ⟨rfl, _⟩; rfl
    case i4 =>
      rintro m' nw' h tk ⟨rfl, e1, ⟨t1, e2⟩, ⟨t2, e4⟩, e5⟩ O₃
      clear O₂
      k_steps
      all_goals (try dsimp only [TurnEnd])
      refine ⟨_, _, _, _, rfl, by assumption, rfl, by walk_at "lk", ⟨_, by walk_at "lk"⟩, fun j i k h1 h2 h3 h4 h5 h6 => ?_⟩
      rcases Nat.lt_or_ge j (q + 1) with hj | hj
      · exact e3 j i k h1 hj h3 h4 h5 h6
      · obtain rfl : j = q + 1 := by omega
        exact e5 i k h3 h4 h5 h6
    case i3 =>
      rintro i m' nw' g₂ h tk tx hi ⟨rfl, e1, ⟨t1, e2⟩, ⟨t2, e4⟩, e5⟩ kg₂ O₃
      clear O₂
      rw [Int.zero_add] at O₃
      have X₂ : Amb w g₂ := X₁.stay kg₂
      have hpa₂ : g₂.IsList pa items.toArray := hpa₁.at fun o e => kg₂ _ o e
      clear X₁ hpa₁
      k_steps
      rename Own _ _ _ _ _ => O₄
      rename IsRange _ _ _ _ _ _ _ _ => iR₄
      refine' for_range (name.length + 1) (SJ3 ps name pa q i) R.hh O₄ iR₄ (by decide) (by decide) (by omega) (by omega) (by omega) ?k1 ?k2 ?k3 ?k4
      case k1 => exact ⟨rfl, by walk_at "lk", ⟨_, by walk_at "lk"⟩, ⟨_, by walk_at "lk"⟩, ⟨_, by walk_at "lk"⟩, fun k h1 => by omega⟩
      case k2 => rintro k m' nw' ⟨rfl, _⟩; rfl
      case k4 =>
        rintro m' nw' h tk ⟨rfl, e1, ⟨t1, e2⟩, ⟨t2, e4⟩, ⟨t3, e6⟩, e7⟩ O₅
        clear O₄
        k_steps
        all_goals (try dsimp only [TurnEnd])
        refine ⟨_, _, _, _, rfl, by assumption, rfl, by walk_at "lk", ⟨_, by walk_at "lk"⟩, ⟨_, by walk_at "lk"⟩, fun i' k h1 h2 h3 h4 => ?_⟩
        rcases Nat.lt_or_ge i' i with hj | hj
        · exact e5 i' k hj h2 h3 h4
        · obtain rfl : i' = i := by omega
          exact e7 k (by omega) h3 h4
      case k3 =>
        rintro k m' nw' g₃ h tk tx hk ⟨rfl, e1, ⟨t1, e2⟩, ⟨t2, e4⟩, ⟨t3, e6⟩, e7⟩ kg₃ O₅
        clear O₄
        rw [Int.zero_add] at O₅
        have X₃ : Amb w g₃ := X₂.stay kg₃
        have hpa₃ : g₃.IsList pa items.toArray := hpa₂.at fun o e => kg₃ _ o e
        clear X₂ hpa₂
        obtain ⟨ti, hgi⟩ := piece_at hps (k := (i : Int)) (i := i) (by omega) (by omega)
        obtain ⟨tj', hgj⟩ := piece_at hps (k := 1 + (q : Int)) (i := q + 1) (by omega) (by omega)
        have hli := hpl i
        have hlj := hpl (q + 1)
        k_steps
        all_goals (try dsimp only [TurnEnd])
        all_goals (first | (have hA := A0t (ps := ps) (name := name) (i := i) (k := k) (by with_reducible assumption) (by with_reducible assumption)) | (have hA := A0f (ps := ps) (name := name) (i := i) (k := k) (by with_reducible assumption) (by with_reducible assumption)) | (have hA := A1 (ps := ps) (name := name) (i := i) (k := k) (by with_reducible assumption) (by with_reducible assumption)))
        all_goals (try (first | (have hB := B0t (name := name) (k := k) hsz (by with_reducible assumption) (by with_reducible assumption)) | (have hB := B0f (name := name) (k := k) hsz (by with_reducible assumption) (by with_reducible assumption)) | (have hB := B1 (name := name) (k := k) hsz (by with_reducible assumption) (by with_reducible assumption))))
        all_goals first
          | exact hQ _ _ _ (kg.tr (kg₂.tr (kg₃.tr (Own.keep (by with_reducible assumption))))) ⟨fun _ => ⟨q + 1, i, k, by omega, by omega, hi, by omega, hA, hB⟩, fun _ => rfl⟩
          | exact ⟨_, _, _, _, rfl, by with_reducible assumption, rfl, by walk_at "lk", ⟨_, by walk_at "lk"⟩, ⟨_, by walk_at "lk"⟩, ⟨_, by walk_at "lk"⟩, no_A e7 hA⟩
          | exact ⟨_, _, _, _, rfl, by with_reducible assumption, rfl, by walk_at "lk", ⟨_, by walk_at "lk"⟩, ⟨_, by walk_at "lk"⟩, ⟨_, by walk_at "lk"⟩, no_B e7 hB⟩
theorem ell_it {ws : List (List Nat)} {ts : List Tok} {i : Nat} {v : Value} (h : (List.zipWith (fun x t => Value.str (S x) t) ws ts)[i]? = some v) : ∃ x t, v = .str (S x) t ∧ ws[i]? = some x := by
  rw [List.getElem?_zipWith] at h
  cases h1 : ws[i]? with
  | none => rw [h1] at h; simp at h
  | some x =>
    cases h2 : ts[i]? with
    | none => rw [h1, h2] at h; simp at h
    | some t => rw [h1, h2] at h; simp at h; exact ⟨x, t, h.symm, rfl⟩
theorem intOf_lt {o : Option Nat} (h : intOf o < 0) : o = none := by
  cases o with
  | none => rfl
  | some i => simp only [intOf] at h; omega
theorem intOf_ge {o : Option Nat} (h : ¬ intOf o < 0) : ∃ i, o = some i ∧ intOf o = i := by
  cases o with
  | none => simp only [intOf] at h; omega
  | some i => exact ⟨i, rfl, rfl⟩
theorem ellF_none {front back : Bool} {p q y : List Nat} (h : ellGo y (y.length - (if back then q.length else 0)) ((if front then [] else [[], p]) ++ (if back then [] else [q, []])) (if front then p.length else 0) = none) : false = ellF front back p q y := by
  unfold ellF; rw [h]; simp
theorem ellF_some {front back : Bool} {p q y : List Nat} {sp : Nat} (h : ellGo y (y.length - (if back then q.length else 0)) ((if front then [] else [[], p]) ++ (if back then [] else [q, []])) (if front then p.length else 0) = some sp)
    (h1 : front = true → p <+: y) (h2 : back = true → q <:+ y) (h3 : (if front then p.length else 0) + (if back then q.length else 0) ≤ y.length) : true = ellF front back p q y := by
  unfold ellF; rw [h]
  cases front <;> cases back <;> simp_all
theorem drop_at {ws : List (List Nat)} {i : Nat} {x : List Nat} (h : ws[i]? = some x) : ws.drop i = x :: ws.drop (i + 1) := by
  obtain ⟨hi, e⟩ := List.getElem?_eq_some_iff.mp h
  rw [List.drop_eq_getElem_cons hi, e]

inductive EJ1 (y : List Nat) (E : Nat) (ws : List (List Nat)) (sp0 : Nat) (i : Nat) (m : Str → Option Value) (nw : List (Addr × Obj)) : Prop
  | mk (h0 : nw = []) (sp : Nat) (e : Int) (t1 t2 t3 : Tok) (h1 : m (Str.ofString "startpos") = some (.int sp t1)) (h2 : m (Str.ofString "endpos") = some (.int e t2)) (h3 : e = (E : Nat)) (h4 : m (Str.ofString "got") = some (.str (S y) t3)) (h5 : ellGo y E (ws.drop i) sp = ellGo y E ws sp0) 
theorem ell_spec0 {w : World} {A : Around} {s : Shared} {x y p q : List Nat} {t u : Tok}
   {Q E : Value → Shared → Prop} (X : Amb w s.heap) (R : Room 1 40 A) (hx : x.length ≤ 100) (hy : y.length ≤ 100) (hp : 0 < p.length) (hq : 0 < q.length) (hp2 : p.length ≤ 100) (hq2 : q.length ≤ 100)
   (hsome : (findL x [46, 46, 46] 0 x.length).isSome = true) (hsp : SplitsTo x [46, 46, 46] [p, q])
    (hQ : ∀ h' tk, Stay s.heap h' → Q (.bool (ellF true true p q y)) { s with heap := h', toks := tk }) :
    wpAny (MP w) A (call (.ref 21) [.str (S x) t, .str (S y) u]) Q E s := by
  walk_at "fill"
  refine' enter [(Str.ofString "want", .str (S x) t), (Str.ofString "got", .str (S y) u)] (upd (upd (fun _ => none) (Str.ofString "want") (.str (S x) t)) (Str.ofString "got") (.str (S y) u)) X ?ho ?hcd ?hr ?hb ?hc ?hl ?c1 ?c2 ?c3 ?hm ?_
  walk_at "enter"
  rintro _ L h₁ tk rfl F X'
  clear X
  k_steps
  all_goals (try dsimp only)
  all_goals first
    | (refine retB hQ (by assumption) ?_; simp_all [ellF]; done)
    | (refine retB hQ (by assumption) ?_; simp_all [ellF]; omega)
    | skip
  rename Own _ _ _ _ _ => O
  obtain ⟨g₁, O₁, kg, kh, hb⟩ := (O.sub (nw' := []) (fun _ h => nomatch h)).rebase
  have hlen : ∀ x ∈ ([] : List (List Nat)), x.length ≤ 100 := by simp; try omega
  have hql : (y.length - q.length) ≤ y.length := by omega
  refine' for_listL (g := g₁) (EJ1 y (y.length - q.length) [] p.length) ?hh O₁ ⟨_, hb _ _ (O.nws _ (.head _)).1 (O.nws _ (.head _)).2.1 (fun _ h => nomatch h), rfl, _, rfl⟩ ?h0 ?hadr ?turn ?done
  case hh => exact R.hh
  case h0 => exact ⟨rfl, p.length, _, _, _, _, by walk_at "lk", by walk_at "lk", by omega, by walk_at "lk", rfl⟩
  case hadr => rintro i m' nw' ⟨rfl, _⟩; rfl
  case done =>
    rintro m₁ nw₁ h tk ⟨rfl, sp, e, t1, t2, t3, h1, h2, h3, h4, h5⟩ O₂
    k_steps
    all_goals (try dsimp only)
    refine retB hQ (O₂.base kg) ?_
    have h6 : ellGo y (y.length - q.length) [] p.length = some sp := h5.symm
    exact ellF_some h6 (fun _ => by first | assumption | contradiction) (fun _ => by first | assumption | contradiction) (by simp only [if_true, Bool.false_eq_true, if_false]; omega)
  case turn =>
    rintro i v m₁ nw₁ g₂ h tk hv ⟨rfl, sp, e, t1, t2, t3, h1, h2, h3, h4, h5⟩ kg₂ O₂
    obtain ⟨x', t', rfl, hx'⟩ := ell_it (ws := []) (ts := []) hv
    have hx2 : x'.length ≤ 100 := hlen x' (List.mem_of_getElem? hx')
    rw [drop_at hx'] at h5
    have X₂ : Amb w g₂ := (X'.stay kg).stay kg₂
    clear O O₁ X'
    k_steps
    all_goals (try dsimp only [TurnEnd])
    · rename intOf _ < 0 => hf
      refine retB hQ ((Own.base (by assumption) kg₂).base kg) ?_
      have hf' := intOf_lt hf
      subst h3
      simp only [Int.toNat_natCast] at hf'
      simp only [ellGo, hf'] at h5
      exact ellF_none h5.symm
    · rename ¬ intOf _ < 0 => hf
      obtain ⟨j, hj, hj'⟩ := intOf_ge hf
      refine ⟨_, _, _, _, rfl, by assumption, rfl, j + x'.length, e, _, _, _, upd_same.trans (congrArg (fun z => some (Value.int z _)) (by rw [hj']; push_cast; rfl)), by walk_at "lk", h3, by walk_at "lk", ?_⟩
      subst h3
      simp only [Int.toNat_natCast] at hj
      simp only [ellGo, hj] at h5
      exact h5

theorem ell_spec1 {w : World} {A : Around} {s : Shared} {x y p q : List Nat} {t u : Tok}
   {Q E : Value → Shared → Prop} (X : Amb w s.heap) (R : Room 1 40 A) (hx : x.length ≤ 100) (hy : y.length ≤ 100) (hp : 0 < p.length) (hq : 0 < q.length) (hp2 : p.length ≤ 100) (hq2 : q.length ≤ 100)
   (hsome : (findL x [46, 46, 46] 0 x.length).isSome = true) (hsp : SplitsTo x [46, 46, 46] [p, q, []])
    (hQ : ∀ h' tk, Stay s.heap h' → Q (.bool (ellF true false p q y)) { s with heap := h', toks := tk }) :
    wpAny (MP w) A (call (.ref 21) [.str (S x) t, .str (S y) u]) Q E s := by
  walk_at "fill"
  refine' enter [(Str.ofString "want", .str (S x) t), (Str.ofString "got", .str (S y) u)] (upd (upd (fun _ => none) (Str.ofString "want") (.str (S x) t)) (Str.ofString "got") (.str (S y) u)) X ?ho ?hcd ?hr ?hb ?hc ?hl ?c1 ?c2 ?c3 ?hm ?_
  walk_at "enter"
  rintro _ L h₁ tk rfl F X'
  clear X
  k_steps
  all_goals (try dsimp only)
  all_goals first
    | (refine retB hQ (by assumption) ?_; simp_all [ellF]; done)
    | (refine retB hQ (by assumption) ?_; simp_all [ellF]; omega)
    | skip
  rename Own _ _ _ _ _ => O
  obtain ⟨g₁, O₁, kg, kh, hb⟩ := (O.sub (nw' := []) (fun _ h => nomatch h)).rebase
  have hlen : ∀ x ∈ ([q, []] : List (List Nat)), x.length ≤ 100 := by simp; try omega
  have hql : y.length ≤ y.length := by omega
  refine' for_listL (g := g₁) (EJ1 y y.length [q, []] p.length) ?hh O₁ ⟨_, hb _ _ (O.nws _ (.head _)).1 (O.nws _ (.head _)).2.1 (fun _ h => nomatch h), rfl, _, rfl⟩ ?h0 ?hadr ?turn ?done
  case hh => exact R.hh
  case h0 => exact ⟨rfl, p.length, _, _, _, _, by walk_at "lk", by walk_at "lk", by omega, by walk_at "lk", rfl⟩
  case hadr => rintro i m' nw' ⟨rfl, _⟩; rfl
  case done =>
    rintro m₁ nw₁ h tk ⟨rfl, sp, e, t1, t2, t3, h1, h2, h3, h4, h5⟩ O₂
    k_steps
    all_goals (try dsimp only)
    refine retB hQ (O₂.base kg) ?_
    have h6 : ellGo y y.length [q, []] p.length = some sp := h5.symm
    exact ellF_some h6 (fun _ => by first | assumption | contradiction) (fun _ => by first | assumption | contradiction) (by simp only [if_true, Bool.false_eq_true, if_false]; omega)
  case turn =>
    rintro i v m₁ nw₁ g₂ h tk hv ⟨rfl, sp, e, t1, t2, t3, h1, h2, h3, h4, h5⟩ kg₂ O₂
    obtain ⟨x', t', rfl, hx'⟩ := ell_it (ws := [q, []]) (ts := [_, _]) hv
    have hx2 : x'.length ≤ 100 := hlen x' (List.mem_of_getElem? hx')
    rw [drop_at hx'] at h5
    have X₂ : Amb w g₂ := (X'.stay kg).stay kg₂
    clear O O₁ X'
    k_steps
    all_goals (try dsimp only [TurnEnd])
    · rename intOf _ < 0 => hf
      refine retB hQ ((Own.base (by assumption) kg₂).base kg) ?_
      have hf' := intOf_lt hf
      subst h3
      simp only [Int.toNat_natCast] at hf'
      simp only [ellGo, hf'] at h5
      exact ellF_none h5.symm
    · rename ¬ intOf _ < 0 => hf
      obtain ⟨j, hj, hj'⟩ := intOf_ge hf
      refine ⟨_, _, _, _, rfl, by assumption, rfl, j + x'.length, e, _, _, _, upd_same.trans (congrArg (fun z => some (Value.int z _)) (by rw [hj']; push_cast; rfl)), by walk_at "lk", h3, by walk_at "lk", ?_⟩
      subst h3
      simp only [Int.toNat_natCast] at hj
      simp only [ellGo, hj] at h5
      exact h5

theorem ell_spec2 {w : World} {A : Around} {s : Shared} {x y p q : List Nat} {t u : Tok}
   {Q E : Value → Shared → Prop} (X : Amb w s.heap) (R : Room 1 40 A) (hx : x.length ≤ 100) (hy : y.length ≤ 100) (hp : 0 < p.length) (hq : 0 < q.length) (hp2 : p.length ≤ 100) (hq2 : q.length ≤ 100)
   (hsome : (findL x [46, 46, 46] 0 x.length).isSome = true) (hsp : SplitsTo x [46, 46, 46] [[], p, q])
    (hQ : ∀ h' tk, Stay s.heap h' → Q (.bool (ellF false true p q y)) { s with heap := h', toks := tk }) :
    wpAny (MP w) A (call (.ref 21) [.str (S x) t, .str (S y) u]) Q E s := by
  walk_at "fill"
  refine' enter [(Str.ofString "want", .str (S x) t), (Str.ofString "got", .str (S y) u)] (upd (upd (fun _ => none) (Str.ofString "want") (.str (S x) t)) (Str.ofString "got") (.str (S y) u)) X ?ho ?hcd ?hr ?hb ?hc ?hl ?c1 ?c2 ?c3 ?hm ?_
  walk_at "enter"
  rintro _ L h₁ tk rfl F X'
  clear X
  k_steps
  all_goals (try dsimp only)
  all_goals first
    | (refine retB hQ (by assumption) ?_; simp_all [ellF]; done)
    | (refine retB hQ (by assumption) ?_; simp_all [ellF]; omega)
    | skip
  rename Own _ _ _ _ _ => O
  obtain ⟨g₁, O₁, kg, kh, hb⟩ := (O.sub (nw' := []) (fun _ h => nomatch h)).rebase
  have hlen : ∀ x ∈ ([[], p] : List (List Nat)), x.length ≤ 100 := by simp; try omega
  have hql : (y.length - q.length) ≤ y.length := by omega
  refine' for_listL (g := g₁) (EJ1 y (y.length - q.length) [[], p] 0) ?hh O₁ ⟨_, hb _ _ (O.nws _ (.head _)).1 (O.nws _ (.head _)).2.1 (fun _ h => nomatch h), rfl, _, rfl⟩ ?h0 ?hadr ?turn ?done
  case hh => exact R.hh
  case h0 => exact ⟨rfl, 0, _, _, _, _, by walk_at "lk", by walk_at "lk", by omega, by walk_at "lk", rfl⟩
  case hadr => rintro i m' nw' ⟨rfl, _⟩; rfl
  case done =>
    rintro m₁ nw₁ h tk ⟨rfl, sp, e, t1, t2, t3, h1, h2, h3, h4, h5⟩ O₂
    k_steps
    all_goals (try dsimp only)
    refine retB hQ (O₂.base kg) ?_
    have h6 : ellGo y (y.length - q.length) [[], p] 0 = some sp := h5.symm
    exact ellF_some h6 (fun _ => by first | assumption | contradiction) (fun _ => by first | assumption | contradiction) (by simp only [if_true, Bool.false_eq_true, if_false]; omega)
  case turn =>
    rintro i v m₁ nw₁ g₂ h tk hv ⟨rfl, sp, e, t1, t2, t3, h1, h2, h3, h4, h5⟩ kg₂ O₂
    obtain ⟨x', t', rfl, hx'⟩ := ell_it (ws := [[], p]) (ts := [_, _]) hv
    have hx2 : x'.length ≤ 100 := hlen x' (List.mem_of_getElem? hx')
    rw [drop_at hx'] at h5
    have X₂ : Amb w g₂ := (X'.stay kg).stay kg₂
    clear O O₁ X'
    k_steps
    all_goals (try dsimp only [TurnEnd])
    · rename intOf _ < 0 => hf
      refine retB hQ ((Own.base (by assumption) kg₂).base kg) ?_
      have hf' := intOf_lt hf
      subst h3
      simp only [Int.toNat_natCast] at hf'
      simp only [ellGo, hf'] at h5
      exact ellF_none h5.symm
    · rename ¬ intOf _ < 0 => hf
      obtain ⟨j, hj, hj'⟩ := intOf_ge hf
      refine ⟨_, _, _, _, rfl, by assumption, rfl, j + x'.length, e, _, _, _, upd_same.trans (congrArg (fun z => some (Value.int z _)) (by rw [hj']; push_cast; rfl)), by walk_at "lk", h3, by walk_at "lk", ?_⟩
      subst h3
      simp only [Int.toNat_natCast] at hj
      simp only [ellGo, hj] at h5
      exact h5

theorem ell_spec3 {w : World} {A : Around} {s : Shared} {x y p q : List Nat} {t u : Tok}
   {Q E : Value → Shared → Prop} (X : Amb w s.heap) (R : Room 1 40 A) (hx : x.length ≤ 100) (hy : y.length ≤ 100) (hp : 0 < p.length) (hq : 0 < q.length) (hp2 : p.length ≤ 100) (hq2 : q.length ≤ 100)
   (hsome : (findL x [46, 46, 46] 0 x.length).isSome = true) (hsp : SplitsTo x [46, 46, 46] [[], p, q, []])
    (hQ : ∀ h' tk, Stay s.heap h' → Q (.bool (ellF false false p q y)) { s with heap := h', toks := tk }) :
    wpAny (MP w) A (call (.ref 21) [.str (S x) t, .str (S y) u]) Q E s := by
  walk_at "fill"
  refine' enter [(Str.ofString "want", .str (S x) t), (Str.ofString "got", .str (S y) u)] (upd (upd (fun _ => none) (Str.ofString "want") (.str (S x) t)) (Str.ofString "got") (.str (S y) u)) X ?ho ?hcd ?hr ?hb ?hc ?hl ?c1 ?c2 ?c3 ?hm ?_
  walk_at "enter"
  rintro _ L h₁ tk rfl F X'
  clear X
  k_steps
  all_goals (try dsimp only)
  all_goals first
    | (refine retB hQ (by assumption) ?_; simp_all [ellF]; done)
    | (refine retB hQ (by assumption) ?_; simp_all [ellF]; omega)
    | skip
  rename Own _ _ _ _ _ => O
  obtain ⟨g₁, O₁, kg, kh, hb⟩ := (O.sub (nw' := []) (fun _ h => nomatch h)).rebase
  have hlen : ∀ x ∈ ([[], p, q, []] : List (List Nat)), x.length ≤ 100 := by simp; try omega
  have hql : y.length ≤ y.length := by omega
  refine' for_listL (g := g₁) (EJ1 y y.length [[], p, q, []] 0) ?hh O₁ ⟨_, hb _ _ (O.nws _ (.head _)).1 (O.nws _ (.head _)).2.1 (fun _ h => nomatch h), rfl, _, rfl⟩ ?h0 ?hadr ?turn ?done
  case hh => exact R.hh
  case h0 => exact ⟨rfl, 0, _, _, _, _, by walk_at "lk", by walk_at "lk", by omega, by walk_at "lk", rfl⟩
  case hadr => rintro i m' nw' ⟨rfl, _⟩; rfl
  case done =>
    rintro m₁ nw₁ h tk ⟨rfl, sp, e, t1, t2, t3, h1, h2, h3, h4, h5⟩ O₂
    k_steps
    all_goals (try dsimp only)
    refine retB hQ (O₂.base kg) ?_
    have h6 : ellGo y y.length [[], p, q, []] 0 = some sp := h5.symm
    exact ellF_some h6 (fun _ => by first | assumption | contradiction) (fun _ => by first | assumption | contradiction) (by simp only [if_true, Bool.false_eq_true, if_false]; omega)
  case turn =>
    rintro i v m₁ nw₁ g₂ h tk hv ⟨rfl, sp, e, t1, t2, t3, h1, h2, h3, h4, h5⟩ kg₂ O₂
    obtain ⟨x', t', rfl, hx'⟩ := ell_it (ws := [[], p, q, []]) (ts := [_, _, _, _]) hv
    have hx2 : x'.length ≤ 100 := hlen x' (List.mem_of_getElem? hx')
    rw [drop_at hx'] at h5
    have X₂ : Amb w g₂ := (X'.stay kg).stay kg₂
    clear O O₁ X'
    k_steps
    all_goals (try dsimp only [TurnEnd])
    · rename intOf _ < 0 => hf
      refine retB hQ ((Own.base (by assumption) kg₂).base kg) ?_
      have hf' := intOf_lt hf
      subst h3
      simp only [Int.toNat_natCast] at hf'
      simp only [ellGo, hf'] at h5
      exact ellF_none h5.symm
    · rename ¬ intOf _ < 0 => hf
      obtain ⟨j, hj, hj'⟩ := intOf_ge hf
      refine ⟨_, _, _, _, rfl, by assumption, rfl, j + x'.length, e, _, _, _, upd_same.trans (congrArg (fun z => some (Value.int z _)) (by rw [hj']; push_cast; rfl)), by walk_at "lk", h3, by walk_at "lk", ?_⟩
      subst h3
      simp only [Int.toNat_natCast] at hj
      simp only [ellGo, hj] at h5
      exact h5

def strE1 (x : List Nat) : Int := if 0 ≤ intOf (findL x [10] 0 x.length) then intOf (findL x [10] 0 x.length) else x.length
def strE2 (x : List Nat) : Int := if 0 ≤ intOf (findL x [58] 0 (min (strE1 x).toNat x.length)) then intOf (findL x [58] 0 (min (strE1 x).toNat x.length)) else strE1 x
theorem strE1_p {x : List Nat} (h : 0 ≤ intOf (findL x [10] 0 x.length)) : strE1 x = intOf (findL x [10] 0 x.length) := if_pos h
theorem strE1_n {x : List Nat} (h : ¬ 0 ≤ intOf (findL x [10] 0 x.length)) : strE1 x = x.length := if_neg h
theorem strE2_p {x : List Nat} {a : Int} (e : strE1 x = a) (h : 0 ≤ intOf (findL x [58] (Int.toNat 0) (min a.toNat x.length))) : strE2 x = intOf (findL x [58] (Int.toNat 0) (min a.toNat x.length)) := by subst e; exact if_pos h
theorem strE2_n {x : List Nat} {a : Int} (e : strE1 x = a) (h : ¬ 0 ≤ intOf (findL x [58] (Int.toNat 0) (min a.toNat x.length))) : strE2 x = a := by subst e; exact if_neg h
theorem str_p {x : List Nat} {a : Int} (e : strE2 x = a) (h : 0 ≤ intOf (lastL x [46] (Int.toNat 0) (min a.toNat x.length))) : stripF x = (x.take a.toNat).drop (intOf (lastL x [46] (Int.toNat 0) (min a.toNat x.length)) + 1).toNat := by
  subst e
  show (x.take (strE2 x).toNat).drop (if 0 ≤ intOf (lastL x [46] 0 (min (strE2 x).toNat x.length)) then intOf (lastL x [46] 0 (min (strE2 x).toNat x.length)) + 1 else 0).toNat = _
  rw [if_pos (show 0 ≤ intOf (lastL x [46] 0 (min (strE2 x).toNat x.length)) from h)]; rfl
theorem str_n {x : List Nat} {a : Int} (e : strE2 x = a) (h : ¬ 0 ≤ intOf (lastL x [46] (Int.toNat 0) (min a.toNat x.length))) : stripF x = (x.take a.toNat).drop (Int.toNat 0) := by
  subst e
  show (x.take (strE2 x).toNat).drop (if 0 ≤ intOf (lastL x [46] 0 (min (strE2 x).toNat x.length)) then intOf (lastL x [46] 0 (min (strE2 x).toNat x.length)) + 1 else 0).toNat = _
  rw [if_neg (show ¬ 0 ≤ intOf (lastL x [46] 0 (min (strE2 x).toNat x.length)) from h)]
theorem strip_spec {w : World} {A : Around} {s : Shared} {x : List Nat} {t : Tok}
   {Q E : Value → Shared → Prop} (X : Amb w s.heap) (R : Room 1 40 A) (hx : x.length ≤ 100) 
    (hQ : ∀ t h' tk, Stay s.heap h' → Q (.str (S (stripF x)) t) { s with heap := h', toks := tk }) :
    wpAny (MP w) A (call (.ref 28) [.str (S x) t]) Q E s := by
  walk_at "fill"
  refine' enter [(Str.ofString "msg", .str (S x) t)] (upd (fun _ => none) (Str.ofString "msg") (.str (S x) t)) X ?ho ?hcd ?hr ?hb ?hc ?hl ?c1 ?c2 ?c3 ?hm ?_
  walk_at "enter"
  rintro _ L h₁ tk rfl F X'
  clear X
  k_steps
  all_goals (try dsimp only)
  all_goals (refine retS hQ (by assumption) ?_)
  all_goals (
    clear hQ
    first | (have E1 := strE1_p (by with_reducible assumption)) | (have E1 := strE1_n (by with_reducible assumption))
    first | (have E2 := strE2_p E1 (by with_reducible assumption)) | (have E2 := strE2_n E1 (by with_reducible assumption))
    first | exact (str_p E2 (by with_reducible assumption)).symm | exact (str_n E2 (by with_reducible assumption)).symm)
theorem laid4 : True := by
  k_with "assign Tuple ref" => k_dflt ((rename Own _ _ _ _ _ => oF); refine' asg2C oF ?k1 ?k2 ?k3 ?_; (case k1 => walk_at "hh"); (case k2 => with_reducible assumption); (case k3 => rfl); (clear oF); intro _ _ _ _ _)
  k_with "assign Tuple" => walk_at "assign Tuple ref"
  k_with "assign" => walk_at "assign Tuple ref"
  trivial
theorem asc_S {x : List Nat} (h : ∀ c ∈ x, Ltr c) : (S x).cps.all (· < 128) = true := by
  rw [← Array.all_toList, S_cps, List.all_eq_true]; intro c hc
  rcases h c hc with rfl | rfl | rfl | rfl <;> rfl
theorem laid5 : True := by
  k_with "call type:zip" => (refine' zip_S ?k1 ?k2 ?_; (case k1 => exact asc_S (by with_reducible assumption)); (case k2 => exact asc_S (by with_reducible assumption)); intro _ _ _ _)
  trivial
inductive PI1 (word name : List Nat) (L : Addr) (m : Str → Option Value) (nw : List (Addr × Obj)) : Prop
  | mk (o : Obj) (t1 t2 : Tok) (h0 : nw = [(L + 1, o)]) (h1 : o.data = .cell (some (.str (S (loF word name)) t1))) (h2 : m (Str.ofString "shorter") = some (.str (S (shF word name)) t2)) 
inductive PI2 (lo sh : List Nat) (m : Str → Option Value) (nw : List (Addr × Obj)) : Prop
  | mk (lr : Addr) (oR : Obj) (vs : List Value) (t2 t3 : Tok) (h0 : nw = [(lr, oR)]) (h1 : IsLst oR vs) (h2 : StrL vs (rowsF lo (lo.length - sh.length))) (h3 : m (Str.ofString "shorter") = some (.str (S sh) t2)) (h4 : m (Str.ofString "rows") = some (.ref lr)) (h5 : m (Str.ofString "more") = some (.int ((lo.length : Int) - sh.length) t3)) 
inductive PJ1 (lo sh : List Nat) (rows : List (List Nat)) (pa : Addr) (i : Nat) (m : Str → Option Value) (nw : List (Addr × Obj)) : Prop
  | mk (ys : List Value) (n : Nat) (t1 t2 : Tok) (h0 : nw = [(pa, lstN ys n)]) (h1 : IntsAre ys (4 :: (rows.take i).map fun r => 2 * ((lo.length : Int) - sh.length) + ham r sh)) (h2 : m (Str.ofString "prices") = some (.ref pa)) (h3 : m (Str.ofString "shorter") = some (.str (S sh) t1)) (h4 : m (Str.ofString "more") = some (.int ((lo.length : Int) - sh.length) t2)) 
theorem price_spec {w : World} {A : Around} {s : Shared} {word name : List Nat} {t u : Tok}
   {Q E : Value → Shared → Prop} (X : Amb w s.heap) (R : Room 1 60 A) (hw : word.length ≤ 20) (hn : name.length ≤ 20) (hwl : ∀ c ∈ word, Ltr c) (hnl : ∀ c ∈ name, Ltr c)
    (hQ : ∀ t h' tk, Stay s.heap h' → Q (.int (priceF word name) t) { s with heap := h', toks := tk }) :
    wpAny (MP w) A (call (.ref 61) [.str (S word) t, .str (S name) u]) Q E s := by
  walk_at "fill"
  refine' enterC [(Str.ofString "word", .str (S word) t), (Str.ofString "name", .str (S name) u)] X ?ho ?hcd ?hr ?hb ?hki ?hnd ?c1 ?c2 ?c3 ?_
  case ho => k_is
  case hcd => k_is
  case hr => (have hR1 := R.hd; omega)
  case hb => rfl
  case hki => intro n x hx; simp only [List.mem_cons, List.not_mem_nil, or_false] at hx; rcases hx with rfl | rfl <;> exact .inl rfl
  case hnd => decide
  case c1 => rfl
  case c2 => rfl
  case c3 => rfl
  rintro _ L h₁ tk cells rfl F C X'
  obtain ⟨o, rfl, ho⟩ := CellsAre.one C
  clear X C
  replace ho : o.data = .cell none := ho
  replace F : Own s.heap L h₁ (upd (upd (fun _ => none) (Str.ofString "word") (.str (S word) t)) (Str.ofString "name") (.str (S name) u)) [(L + 1, o)] := F
  refine execs_cut (g := s.heap) (L := L) 1 (PI1 word name L) ?_ ?_
  · dsimp only [List.take]
    k_steps
    all_goals (try dsimp only [CutEnd])
    · rename ((_ : Nat) : Int) < _ => hlt
      have e1 : loF word name = word := if_pos (by omega)
      have e2 : shF word name = name := if_pos (by omega)
      exact ⟨_, _, _, _, rfl, by assumption, _, _, _, rfl, by rw [e1]; assumption, by rw [e2]; walk_at "lk"⟩
    · rename ¬ ((_ : Nat) : Int) < _ => hlt
      have e1 : loF word name = name := if_neg (by omega)
      have e2 : shF word name = word := if_neg (by omega)
      exact ⟨_, _, _, _, rfl, by assumption, _, _, _, rfl, by rw [e1]; assumption, by rw [e2]; walk_at "lk"⟩
  dsimp only [List.drop]
  rintro h tk' m₁ nw₁ O₂ ⟨o', t1, t2, rfl, ho', hs⟩
  clear F ho
  have hlo : (loF word name).length ≤ 20 := by unfold loF; split <;> omega
  have hsh : (shF word name).length ≤ (loF word name).length := by unfold loF shF; split <;> omega
  have hlol : ∀ c ∈ loF word name, Ltr c := by unfold loF; split <;> assumption
  have hshl : ∀ c ∈ shF word name, Ltr c := by unfold shF; split <;> assumption
  have hQ' : ∀ M t h' tk, Stay s.heap h' → M ∈ pricesF word name → (∀ a ∈ pricesF word name, M ≤ a) → Q (.int M t) { s with heap := h', toks := tk } := fun M t h' tk st h1 h2 => by
    have e : M = priceF word name := Int.le_antisymm (by
      obtain ⟨x, hx, hxc⟩ := (minL_le (l := pricesF word name) (c := priceF word name) (by simp [pricesF])).mp (Int.le_refl _)
      exact Int.le_trans (h2 x hx) hxc) ((minL_le (by simp [pricesF])).mpr ⟨M, h1, Int.le_refl _⟩)
    rw [e]; exact hQ t h' tk st
  clear hQ
  unfold pricesF at hQ'
  generalize loF word name = lo at *
  generalize shF word name = sh at *
  clear hw hn hwl hnl
  refine execs_cut (g := s.heap) (L := L) 3 (PI2 lo sh) ?_ ?_
  · dsimp only [List.take]
    k_steps
    all_goals (try dsimp only [CutEnd])
    · rename Own _ _ _ _ _ => O₆
      exact ⟨_, _, _, _, rfl, O₆.sub (by intro p hp; rw [List.mem_singleton.mp hp]; exact .head _), _, _, [.str (S lo) t1], _, _, rfl, isLst_N [.str (S lo) t1] 0, rows_0 (by assumption), by walk_at "lk", by walk_at "lk", by walk_at "lk"⟩
    · refine' cac_here (cl := [(Str.ofString "longer", L + 1)]) ?a1 ?a2 ?a3 ?a4 ?_
      case a1 => rfl
      case a2 => rfl
      case a3 => rfl
      case a4 => decide
      k_steps
      rename Own _ _ _ _ _ => O₃
      rename IsRange _ _ _ _ _ _ _ _ => iR
      refine' comp_rangeD lo.length (fun _ => true) (fun v y nw' => nw' = [] ∧ ∃ (i : Nat) (t t' : Tok), v = .int (0 + (i : Int)) t ∧ y = .str (S (lo.take i ++ lo.drop (i + 1))) t') R.hh O₃ iR (by decide) (by decide) (by omega) (by omega) (by omega) (by omega) ?b1 ?b2 ?b3 ?b4 ?b5 ?b6
      case b1 => decide
      case b2 => rfl
      case b3 => rfl
      case b4 => exact fun i t hi => tests_nilD
      case b5 =>
        intro i t3 hi _ C s₃ g₁ m₃ kg hnw O₄ hm
        have hc1 : g₁.get? (L + 1) = some o' := hnw (L + 1, o') (.tail _ (.head _))
        clear O₃
        rcases s₃ with ⟨h₃, p₃, q₃, r₃, u₃⟩
        dsimp only at O₄
        k_steps
        all_goals (try dsimp only)
        rw [Int.zero_add] at *
        exact TEnd.mk [] (by assumption) ⟨rfl, i, _, _, by rw [Int.zero_add], by congr 2⟩
      case b6 =>
        refine' fin_some ?c1 ?c2
        case c2 => rintro v z nw' ⟨hf, _⟩ q hq; rw [hf] at hq; cases hq
        intro D h' tk ys k vs hD O₅ hlen hP hF
        clear O₃
        have hSL : StrL ys (rowsF lo (lo.length - sh.length)) := by
          rw [rows_1 (by assumption)]
          exact strl_range (fun k => lo.take k ++ lo.drop (k + 1)) hlen hP hF fun v y hr => hr.elim fun nw' hr => hr.2.2
        k_steps
        all_goals (try dsimp only [CutEnd])
        rename Own _ _ _ _ _ => O₆
        exact ⟨_, _, _, _, rfl, O₆.sub (by intro p hp; rw [List.mem_singleton.mp hp]; exact .head _), D, _, ys, _, _, rfl, isLst_N _ _, hSL, by walk_at "lk", by walk_at "lk", by walk_at "lk"⟩
    · rename Own _ _ _ _ _ => O₆
      exact ⟨_, _, _, _, rfl, O₆.sub (by intro p hp; rw [List.mem_singleton.mp hp]; exact .head _), _, _, [], _, _, rfl, isLst_N [] 0, rows_2 hsh (by assumption) (by assumption), by walk_at "lk", by walk_at "lk", by walk_at "lk"⟩
  dsimp only [List.drop]
  rintro h₂ tk₂ m₂ nw₂ O₃ ⟨lr, oR, vs, t3, t4, rfl, iL, hSL, e1, e2, e3⟩
  clear O₂ ho' hs
  have hrl : (rowsF lo (lo.length - sh.length)).length ≤ 20 := by unfold rowsF; split; (simp); split; (rw [List.length_map, List.length_range]; exact hlo); (simp)
  have hrow : ∀ r ∈ rowsF lo (lo.length - sh.length), r.length ≤ 20 ∧ ∀ c ∈ r, Ltr c := by
    intro r hr
    unfold rowsF at hr
    split at hr
    · rw [List.mem_singleton.mp hr]; exact ⟨hlo, hlol⟩
    · split at hr
      · obtain ⟨k, _, rfl⟩ := List.mem_map.mp hr
        refine ⟨by rw [List.length_append, List.length_take, List.length_drop]; omega, fun c hc => ?_⟩
        rcases List.mem_append.mp hc with hc | hc
        · exact hlol c (List.mem_of_mem_take hc)
        · exact hlol c (List.mem_of_mem_drop hc)
      · cases hr
  generalize rowsF lo (lo.length - sh.length) = rows at *
  have hvl : vs.length ≤ 20 := by rw [hSL.length]; exact hrl
  k_steps
  rename_i pa _ hlt h₃
  rename Own _ _ _ _ _ => O₄
  obtain ⟨g₁, O₅, k1, k2, up⟩ := (O₄.sub (nw' := [(pa, lstN [.int 4 tk₂] 0)]) (by intro p hp; rw [List.mem_singleton.mp hp]; exact .head _)).rebase
  have hlr : g₁.IsList lr vs.toArray := ⟨oR, up lr oR (O₄.nws (lr, oR) (.tail _ (.head _))).1 (O₄.nws (lr, oR) (.tail _ (.head _))).2.1 (by intro p hp; rw [List.mem_singleton.mp hp]; exact Nat.ne_of_gt (hlt (lr, oR) (.head _))), iL.1, iL.2⟩
  have X₁ : Amb w g₁ := X'.stay k1
  clear O₄ X' up hlt k2
  refine' for_listL (g := g₁) (PJ1 lo sh rows pa) R.hh O₅ hlr ?f1 ?f2 ?f3 ?f4
  case f1 => exact ⟨[.int 4 tk₂], 0, _, _, rfl, .cons _ _ .nil, by walk_at "lk", by walk_at "lk", by walk_at "lk"⟩
  case f2 => rintro i m' nw' ⟨ys, n, _, _, rfl, _⟩; rfl
  case f4 =>
    rintro m' nw' h tk ⟨ys, n, t5, t6, rfl, hI, f1, f2, f3⟩ O'
    clear O₅ e1 e2 e3
    rw [List.take_of_length_le (by rw [hSL.length]; exact Nat.le_refl _)] at hI
    k_steps
    rename Own _ _ _ _ _ => O₆
    refine minLO O₆ R.hh (isl_0 O₆) hI (by rw [List.length_cons]; exact Nat.succ_pos _) fun M t h' tk O₇ hm hle => ?_
    clear O₆
    k_steps
    all_goals (try dsimp only)
    exact hQ' M t h' _ (k1.tr O₇.keep) hm hle
  case f3 =>
    rintro i v m' nw' g₂ h tk hv ⟨ys, n, t5, t6, rfl, hI, f1, f2, f3⟩ kg O'
    obtain ⟨row, t7, rfl, hri⟩ := hSL.at hv
    have X₂ : Amb w g₂ := X₁.stay kg
    clear O₅ X₁ e1 e2 e3
    obtain ⟨hr20, hrL⟩ := hrow row (List.mem_of_getElem? hri)
    k_steps
    refine' zlc_here (cl := []) ?a1 ?a2 ?a3 ?_
    case a1 => rfl
    case a2 => rfl
    case a3 => decide
    k_steps
    rename Own _ _ _ _ _ => O₆
    refine' comp_zip cost R.hh O₆ (by assumption) (by assumption) (by assumption) (by omega) ?b1 ?b2 ?b3 ?b4 ?b5 ?b6 ?b7
    case b1 => decide
    case b2 => rfl
    case b3 => rfl
    case b4 => rfl
    case b5 => decide
    case b6 =>
      intro c d t8 t9 hc hd C s₃ g₃ m₃ kg₃ hnw O₇ hma hmb
      have hcl := hrL c hc
      have hdl := hshl d hd
      have hdl1 : ∀ c ∈ [d], Ltr c := by intro c hc; rw [List.mem_singleton.mp hc]; exact hdl
      have X₃ : Amb w g₃ := X₂.stay kg₃
      clear O₆ X₂
      rcases s₃ with ⟨h₃, p₃, q₃, r₃, u₃⟩
      dsimp only at O₇
      k_steps
      · exact TEnd2.mk (by assumption) ⟨_, by rw [← cost_0 (by assumption)]⟩
      · exact TEnd2.mk (by assumption) ⟨_, by rw [← cost_1 hdl (by assumption) (by assumption)]⟩
      · exact TEnd2.mk (by assumption) ⟨_, by rw [← cost_2 hcl hdl (by assumption) (by assumption)]⟩
    case b7 =>
      intro D h₈ tk₈ zs kz hD O₇ hZ
      clear O₆
      k_steps
      rename Own _ _ _ _ _ => O₉
      replace O₉ := O₉.sub (nw' := [(pa, lstN ys n)]) (by intro p hp; rw [List.mem_singleton.mp hp]; exact .tail _ (.head _))
      have hyl : ys.length ≤ 21 := by
        rw [hI.length, List.length_cons, List.length_map, List.length_take]; omega
      k_steps
      all_goals (try dsimp only [TurnEnd])
      refine ⟨_, _, _, _, rfl, by assumption, _, _, _, _, rfl, ?_, by walk_at "lk", by walk_at "lk", by walk_at "lk"⟩
      have e1 : rows.take (i + 1) = rows.take i ++ [row] := by rw [List.take_add_one, hri]; rfl
      rw [e1, List.map_append, ← List.cons_append]
      exact hI.append (.cons _ _ .nil)
theorem ell_any {w : World} {A : Around} {s : Shared} {ps : List (List Nat)} {i j : Nat} {name : List Nat} {t u : Tok}
   {Q E : Value → Shared → Prop} (X : Amb w s.heap) (R : Room 1 40 A) (G : PsOk ps) (hi : i < j) (hj : j < ps.length) (hy : name.length ≤ 100)
    (hQ : ∀ h' tk, Stay s.heap h' → Q (.bool (fitB ps name (wantAt ps i j))) { s with heap := h', toks := tk }) :
    wpAny (MP w) A (call (.ref 21) [.str (S (wantAt ps i j)) t, .str (S name) u]) Q E s := by
  have hp : 0 < (ps.getD i []).length := List.length_pos_iff.mpr (G.ne i (by omega))
  have hq : 0 < (ps.getD j []).length := List.length_pos_iff.mpr (G.ne j hj)
  have hp2 : (ps.getD i []).length ≤ 100 := Nat.le_trans (G.len i) (by decide)
  have hq2 : (ps.getD j []).length ≤ 100 := Nat.le_trans (G.len j) (by decide)
  have ho := shape_ok (f := decide (i = 0)) (b := decide (j + 1 = ps.length)) (G.ltr i) (G.ltr j)
  rw [← shape_want hj] at ho
  rw [fitB_at G hi hj] at hQ
  have hw := want_len G (i := i) (j := j)
  generalize wantAt ps i j = x at *
  generalize decide (i = 0) = f at *
  generalize decide (j + 1 = ps.length) = b at *
  cases f <;> cases b
  · exact ell_spec3 X R hw hy hp hq hp2 hq2 ho.2 ho.1 hQ
  · exact ell_spec2 X R hw hy hp hq hp2 hq2 ho.2 ho.1 hQ
  · exact ell_spec1 X R hw hy hp hq hp2 hq2 ho.2 ho.1 hQ
  · exact ell_spec0 X R hw hy hp hq hp2 hq2 ho.2 ho.1 hQ
inductive I1 (L a : Addr) (m : Str → Option Value) (nw : List (Addr × Obj)) : Prop
  | mk (b : Nat) (W : List Nat) (o2 o3 o4 o5 : Obj) (pl : Addr) (items : List Value) (k : Nat) (tb tw : Tok) (h0 : nw = [(pl, lstN items k), (L + 1 + 1 + 1 + 1 + 1, o5), (L + 1 + 1 + 1 + 1, o4), (L + 1 + 1 + 1, o3), (L + 1 + 1, o2)]) (h1 : o2.data = .cell (some (.int (b : Int) tb))) (h2 : o3.data = .cell (some (.str (S W) tw))) (h3 : o4.data = .cell (some (.ref pl))) (h4 : o5.data = .cell none) (h5 : StrL items (piecesF W b)) (h6 : W.length = 5) (h7 : (∀ c ∈ W, Ltr c)) (h8 : b < 4) (h9 : m (Str.ofString "script") = some (.ref a)) 
theorem law_seg1 {w : World} {A : Around} {s : Shared} {g : Heap} {L a f : Addr} {vs : List Value} {ns : List Int} {o1 o2 o3 o4 o5 : Obj} {cdv' : Value} {Q : Flow → Shared → Prop}
   {name qual : Str} {params : Arguments} {body : List Stmt} {scope : Scope} {dV kV doc pm cdv ct oc : Value} {an od : Option Addr} {osl : Array (Option Value)}
   (ho : (hd.heap_39 w.params).lookup 80 = some ⟨oc, od, .func (fnOf name qual params body scope dV kV doc pm an cdv ct), osl⟩)
   (X : Amb w g) (R : Room 4 200 A) (hl : g.IsList a vs.toArray) (hI : IntsAre vs ns) (hn : ns.length ≤ 63)
   (O : Own g L s.heap (upd (fun _ => none) (Str.ofString "script") (.ref a)) [(L + 1 + 1 + 1 + 1 + 1, o5), (L + 1 + 1 + 1 + 1, o4), (L + 1 + 1 + 1, o3), (L + 1 + 1, o2), (L + 1, o1)])
   (h1 : o1.data = .cell none) (h2 : o2.data = .cell none) (h3 : o3.data = .cell none) (h4 : o4.data = .cell none) (h5 : o5.data = .cell none) :
   wpAny (MP w) A (execs (body.take 4) (envOfC qual scope L f cdv')) (CutEnd g L (I1 L a) s Q) NoE s := by
  walk_at "fill"
  refine' by_def (P := fun body scope qual => wpAny (MP w) A (execs (body.take 4) (envOfC qual scope L f cdv')) _ NoE s) body scope ho ?ho ?_
  case ho => k_is
  dsimp only [List.take]
  rcases s with ⟨h₀, p₀, q₀, r₀, u₀⟩
  dsimp only at O
  have hvl : vs.length ≤ 63 := by rw [hI.length]; exact hn
  k_steps
  refine' clc_here (cl := [(Str.ofString "total", L + 1)]) ?a1 ?a2 ?a3 ?_
  case a1 => rfl
  case a2 => rfl
  case a3 => decide
  k_steps
  rename Own _ _ _ _ _ => O₁
  rename IsRange _ _ _ _ _ _ _ _ => iR
  rename_i _ o1' hd1 _ o2' hd2 r' h' tk' t' u' v'
  replace hd1 : ∃ t, o1'.data = .cell (some (.int (ns.sum + 27) t)) := ⟨_, hd1⟩
  obtain ⟨tt, hd1⟩ := hd1
  replace hd2 : ∃ t, o2'.data = .cell (some (.int ((2 + ↑vs.toArray.size + (ns.sum + 27) / 1024) % 4) t)) := ⟨_, hd2⟩
  obtain ⟨tb, hd2⟩ := hd2
  generalize hT : ns.sum + 27 = T at *
  have hB0 : 0 ≤ (2 + ↑vs.toArray.size + T / 1024) % 4 := Int.emod_nonneg _ (by decide)
  have hB4 : (2 + ↑vs.toArray.size + T / 1024) % 4 < 4 := Int.emod_lt_of_pos _ (by decide)
  generalize (2 + ↑vs.toArray.size + T / 1024) % 4 = B at *
  obtain ⟨b, rfl⟩ := Int.eq_ofNat_of_zero_le hB0
  have hb : b < 4 := by omega
  clear hB0 hB4
  refine' comp_rangeD 5 (fun _ => true) (fun v y nw' => nw' = [] ∧ ∃ (i : Nat) (t t' : Tok), v = .int (0 + (i : Int)) t ∧ y = .str (S [wordAt T i]) t') R.hh O₁ iR (by decide) (by decide) (by decide) (by decide) (by decide) (by decide) ?b1 ?b2 ?b3 ?b4 ?b5 ?b6
  case b1 => decide
  case b2 => rfl
  case b3 => rfl
  case b4 => exact fun i t hi => tests_nilD
  case b5 =>
    intro i t3 hi _ C s₃ g₁ m₃ kg hnw O₄ hm
    have hc1 : g₁.get? (L + 1) = some o1' := hnw (L + 1, o1') (by simp)
    clear O₁
    rcases s₃ with ⟨h₃, p₃, q₃, r₃, u₃⟩
    dsimp only at O₄
    rw [Int.zero_add] at *
    have hp0 : (0 : Int) < 4 ^ ((i : Int)).toNat := Int.pow_pos (by decide)
    have hp1 : (4 : Int) ^ ((i : Int)).toNat < 1000000000 := by
      have : i = 0 ∨ i = 1 ∨ i = 2 ∨ i = 3 ∨ i = 4 := by omega
      rcases this with rfl | rfl | rfl | rfl | rfl <;> decide
    k_steps
    all_goals (try dsimp only)
    exact TEnd.mk [] (by assumption) ⟨rfl, i, _, _, by rw [Int.zero_add], by rw [Int.toNat_natCast]; rfl⟩
  case b6 =>
    refine' fin_none ?_
    intro D h' tk ys k vs' hD O₅ hlen hP hF
    clear O₁
    have hSL : StrL ys ((List.range 5).map fun k => [wordAt T k]) := strl_range (fun k => [wordAt T k]) hlen hP hF fun v y hr => hr.elim fun nw' hr => hr.2.2
    clear hF hP hlen
    k_steps
    refine joinO (isl_0 O₅) hSL (by simp) (by simp) fun t6 tk6 => ?_
    rw [wordF_flat]
    replace O₅ := O₅.sub (nw' := [(L + 1 + 1 + 1 + 1 + 1, o5), (L + 1 + 1 + 1 + 1, o4), (L + 1 + 1 + 1, o3), (L + 1 + 1, o2'), (L + 1, o1')]) fun p hp => .tail _ hp
    clear hSL hD
    k_steps
    rename _ = Data.cell (some (Value.str _ _)) => hd3
    rename_i o3' _
    replace hd3 : ∃ t, o3'.data = .cell (some (.str (S (wordF T)) t)) := ⟨_, hd3⟩
    obtain ⟨tw, hd3⟩ := hd3
    have hWl : (wordF T).length = 5 := wordF_len
    have hWc : ∀ c ∈ wordF T, Ltr c := wordF_ltr
    generalize wordF T = W at *
    refine' clc_here (cl := [(Str.ofString "word", L + 1 + 1 + 1), (Str.ofString "bound", L + 1 + 1)]) ?a1 ?a2 ?a3 ?_
    case a1 => rfl
    case a2 => rfl
    case a3 => decide
    k_steps
    rename Own _ _ _ _ _ => O₁
    clear iR
    rename IsRange _ _ _ _ _ _ _ _ => iR
    refine' comp_rangeD (b + 2) (fun _ => true) (fun v y nw' => nw' = [] ∧ ∃ (i : Nat) (t t' : Tok), v = .int (0 + (i : Int)) t ∧ y = .str (S ((W.take (cut b (i + 1))).drop (cut b i))) t') R.hh O₁ iR (by decide) (by decide) (by omega) (by omega) (by omega) (by omega) ?b1 ?b2 ?b3 ?b4 ?b5 ?b6
    case b1 => decide
    case b2 => rfl
    case b3 => rfl
    case b4 => exact fun i t hi => tests_nilD
    case b5 =>
      intro i t3 hi _ C s₃ g₁ m₃ kg hnw O₄ hm
      have hc2 : g₁.get? (L + 1 + 1) = some o2' := hnw (L + 1 + 1, o2') (by simp)
      have hc3 : g₁.get? (L + 1 + 1 + 1) = some o3' := hnw (L + 1 + 1 + 1, o3') (by simp)
      clear O₁
      rcases s₃ with ⟨h₃, p₃, q₃, r₃, u₃⟩
      dsimp only at O₄
      rw [Int.zero_add] at *
      have hlo : 0 ≤ 5 * (i : Int) / ((b : Int) + 2) := Int.ediv_nonneg (by omega) (by omega)
      have hhi : 0 ≤ 5 * ((i : Int) + 1) / ((b : Int) + 2) := Int.ediv_nonneg (by omega) (by omega)
      k_steps
      all_goals (try dsimp only)
      have e1 : (5 * (i : Int) / ((b : Int) + 2)).toNat = cut b i := by
        rw [show 5 * (i : Int) / ((b : Int) + 2) = ((5 * i / (b + 2) : Nat) : Int) by push_cast; rfl, Int.toNat_natCast]; rfl
      have e2 : (5 * ((i : Int) + 1) / ((b : Int) + 2)).toNat = cut b (i + 1) := by
        rw [show 5 * ((i : Int) + 1) / ((b : Int) + 2) = ((5 * (i + 1) / (b + 2) : Nat) : Int) by push_cast; rfl, Int.toNat_natCast]; rfl
      exact TEnd.mk [] (by assumption) ⟨rfl, i, _, _, by rw [Int.zero_add], by rw [e1, e2]⟩
    case b6 =>
      refine' fin_none ?_
      intro D h' tk ys k vs' hD O₅ hlen hP hF
      clear O₁
      have hSL : StrL ys (piecesF W b) := strl_range (fun k => (W.take (cut b (k + 1))).drop (cut b k)) hlen hP hF fun v y hr => hr.elim fun nw' hr => hr.2.2
      clear hF hP hlen
      have hDp : D ≠ L + 1 + 1 + 1 + 1 := fun e => hD (L + 1 + 1 + 1 + 1, o4) (by simp) e.symm
      k_steps
      all_goals (try dsimp only [CutEnd])
      rename Own _ _ _ _ _ => O₆
      rename _ = Data.cell (some (Value.ref _)) => hd4
      rename_i o4'
      replace O₆ := O₆.sub (nw' := [(D, lstN ys k), (L + 1 + 1 + 1 + 1 + 1, o5), (L + 1 + 1 + 1 + 1, o4'), (L + 1 + 1 + 1, o3'), (L + 1 + 1, o2')]) (fun p hp => List.mem_append_left [(L + 1, o1')] hp)
      exact ⟨_, _, _, _, rfl, O₆, b, W, _, _, _, _, D, ys, k, tb, tw, rfl, hd2, hd3, hd4, h5, hSL, hWl, hWc, hb, by walk_at "lk"⟩
inductive I2 (L : Addr) (m : Str → Option Value) (nw : List (Addr × Obj)) : Prop
  | mk (b : Nat) (W : List Nat) (o2 o3 o4 o5 ow : Obj) (pl wl nl ml al fl : Addr) (items wv nv mv : List Value) (nums : List Int) (k1 k2 k3 : Nat) (tb tw : Tok) (h0 : nw = [(fl, lstN [] 0), (al, lstN [] 0), (ml, lstN mv k1), (nl, lstN nv k2), (wl, ow), (pl, lstN items k3), (L + 1 + 1 + 1 + 1 + 1, o5), (L + 1 + 1 + 1 + 1, o4), (L + 1 + 1 + 1, o3), (L + 1 + 1, o2)]) (h1 : o2.data = .cell (some (.int (b : Int) tb))) (h2 : o3.data = .cell (some (.str (S W) tw))) (h3 : o4.data = .cell (some (.ref pl))) (h4 : o5.data = .cell none) (h5 : StrL items (piecesF W b)) (h6 : IsLst ow wv) (h7 : StrL wv (wantsUp (piecesF W b) (b + 1))) (h8 : IntsAre nv nums) (h9 : nums.length ≤ 9) (h10 : StrL mv (nums.map fun n => nmAt W n 3)) (h11 : W.length = 5) (h12 : (∀ c ∈ W, Ltr c)) (h13 : b < 4) (h14 : ml < al) (h15 : nl < al) (h16 : wl < al) (h17 : pl < al) (h18 : L + 1 + 1 + 1 + 1 + 1 < al) (h19 : al < fl) (h20 : m (Str.ofString "wants") = some (.ref wl)) (h21 : m (Str.ofString "numbers") = some (.ref nl)) (h22 : m (Str.ofString "names") = some (.ref ml)) (h23 : m (Str.ofString "asked") = some (.ref al)) (h24 : m (Str.ofString "found") = some (.ref fl)) 
theorem laid6 : True := by
  k_with "slice list" => ((with_reducible show wpAny _ _ (subscriptTail (Expr.Name _ _) (Expr.Slice none (some _) none _) (Value.ref _) _) _ _ _); ((rename Own _ _ _ _ _ => oF); (refine' lslO (s := ⟨_, _, _, _, _⟩) oF ?k1 ?k2 ?k3 ?_; (case k1 => walk_at "isl"); (case k2 => decide); (case k3 => omega)); (clear oF); intro _ _ _ _))
  k_with "subscriptTail Name Slice ref ref" => walk_at "slice list"
  k_with "binaryOp Add ref ref" => ((rename Own _ _ _ _ _ => oF); (refine' laddO oF ?k1 ?k2 ?k3 ?_; (case k1 => exact isl_1 oF); (case k2 => exact isl_0 oF); (case k3 => (simp only [List.length_cons, List.length_nil, List.length_take]; omega)); (clear oF); intro _ _ _ _))
  trivial
theorem law_seg2 {w : World} {A : Around} {s : Shared} {g : Heap} {L a f : Addr} {vs : List Value} {ns : List Int} {cdv' : Value} {Q : Flow → Shared → Prop} {m : Str → Option Value} {nw : List (Addr × Obj)}
   {name qual : Str} {params : Arguments} {body : List Stmt} {scope : Scope} {dV kV doc pm cdv ct oc : Value} {an od : Option Addr} {osl : Array (Option Value)}
   (ho : (hd.heap_39 w.params).lookup 80 = some ⟨oc, od, .func (fnOf name qual params body scope dV kV doc pm an cdv ct), osl⟩)
   (X : Amb w g) (R : Room 4 200 A) (hl : g.IsList a vs.toArray) (hI : IntsAre vs ns) (hn : ns.length ≤ 63)
   (O : Own g L s.heap m nw) (hI1 : I1 L a m nw) :
   wpAny (MP w) A (execs ((body.drop 4).take 5) (envOfC qual scope L f cdv')) (CutEnd g L (I2 L) s Q) NoE s := by
  walk_at "fill"
  refine' by_def (P := fun body scope qual => wpAny (MP w) A (execs ((body.drop 4).take 5) (envOfC qual scope L f cdv')) _ NoE s) body scope ho ?ho ?_
  case ho => k_is
  dsimp only [List.take, List.drop]
  clear ho
  rcases s with ⟨h₀, p₀, q₀, r₀, u₀⟩
  dsimp only at O
  have hvl : vs.length ≤ 63 := by rw [hI.length]; exact hn
  obtain ⟨b, W, o2, o3, o4, o5, pl, items, k, tb, tw, rfl, h2, h3, h4, h5, hSL, hWl, hWc, hb, hsc⟩ := hI1
  k_steps
  rename Own _ _ _ _ _ => O₁

  refine wants_spec (X.stay O₁.keep) (R.less (by decide) (by decide)) (isl_0 O₁) hSL (by rw [piecesF_len]; omega) (by rw [piecesF_len]; omega) (piecesF_len5 hWl) fun wl wv h' tk st hf hw hWS => ?_
  obtain ⟨ow, iL, hwne, O₂⟩ := O₁.add st hf hw
  rw [piecesF_len] at hWS
  clear O₁ hw hf st
  k_steps
  rename Own _ _ _ _ _ => O₃
  obtain ⟨nv, nums, hNI, hNl, O₄⟩ := nums_own rfl hI O₃.drop23
  rename_i l1 _ _ _
  clear O₃
  have hnl : nv.length ≤ 9 := by rw [hNI.length]; exact hNl
  refine' cac_here (cl := [(Str.ofString "word", L + 1 + 1 + 1)]) ?a1 ?a2 ?a3 ?a4 ?_
  case a1 => rfl
  case a2 => rfl
  case a3 => rfl
  case a4 => decide
  k_steps
  rename Own _ _ _ _ _ => O₃
  refine' comp_listD (fun _ => true) (fun v y nw' => nw' = [] ∧ ∃ (n : Int) (t t' : Tok), v = .int n t ∧ y = .str (S (nmAt W n 3)) t') R.hh O₃ (isl_0 O₃) (by omega) ?b1 ?b2 ?b3 ?b4 ?b5 ?b6
  case b1 => decide
  case b2 => rfl
  case b3 => rfl
  case b4 => exact fun i t hi => tests_nilD
  case b5 =>
    intro i v hv _ C s₃ g₁ m₃ kg hnw O₄ hm
    obtain ⟨n, t, rfl, _⟩ := ints_at hNI hv
    have hc3 : g₁.get? (L + 1 + 1 + 1) = some o3 := hnw (L + 1 + 1 + 1, o3) (by simp)
    have X₁ : Amb w g₁ := X.stay kg
    clear O₃ X
    rcases s₃ with ⟨h₃, p₃, q₃, r₃, u₃⟩
    dsimp only at O₄
    k_steps
    rename Own _ _ _ _ _ => O₅
    refine name_spec (X₁.stay O₅.keep) (R.less (by decide) (by decide)) (by omega) hWc fun t' h' tk st => ?_
    have O₆ := O₅.stay st
    clear O₅
    k_steps
    all_goals (try dsimp only)
    exact TEnd.mk [] O₆ ⟨rfl, n, _, _, rfl, rfl⟩
  case b6 =>
    refine' fin_some ?c1 ?c2
    case c2 => rintro v z nw' ⟨hf, _⟩ q hq; rw [hf] at hq; cases hq
    intro D h' tk mv kk vs' hD O₅ hlen hP hF
    clear O₃
    have hvs : vs' = nv := List.ext_getElem? fun j => by
      rcases Nat.lt_or_ge j vs'.length with hj | hj
      · rw [List.getElem?_eq_getElem hj, hP j _ (List.getElem?_eq_getElem hj)]
      · rw [List.getElem?_eq_none hj, List.getElem?_eq_none (by omega)]
    subst hvs
    rw [List.filter_eq_self.mpr (by simp)] at hF
    have hSN : StrL mv (nums.map fun n => nmAt W n 3) := strl_ints (fun n => nmAt W n 3) hNI hF fun v y hr => hr.elim fun nw' hr => hr.2.2
    clear hF hP hlen
    k_steps
    all_goals (try dsimp only [CutEnd])
    rename Own _ _ _ _ _ => O₆
    rename_i al _ lal _ fl _ lfl _
    exact ⟨_, _, _, _, rfl, O₆, b, W, o2, o3, o4, o5, ow, pl, wl, l1, D, al, fl, items, wv, vs', mv, nums, kk, 0, k, tb, tw, rfl, h2, h3, h4, h5, hSL, iL, hWS, hNI, hNl, hSN, hWl, hWc, hb,
      lal (D, lstN mv kk) (by simp), lal (l1, lstN vs' 0) (by simp), lal (wl, ow) (by simp), lal (pl, lstN items k) (by simp), lal (L + 1 + 1 + 1 + 1 + 1, o5) (by simp), lfl (al, _) (.head _), by walk_at "lk", by walk_at "lk", by walk_at "lk", by walk_at "lk", by walk_at "lk"⟩
inductive I3 (b : Nat) (W : List Nat) (names : List (List Nat)) (nc ml al fl : Addr) (m : Str → Option Value) (nw : List (Addr × Obj)) : Prop
  | mk (ys zs : List Value) (n1 n2 : Nat) (o5 : Obj) (prs : List (Addr × Obj)) (h0 : nw = (al, lstN ys n1) :: (fl, lstN zs n2) :: (nc, o5) :: prs) (h1 : StrL ys (names.filter (standB (piecesF W b)))) (h2 : PairL prs W zs (names.filter (nearB W b))) (h3 : m (Str.ofString "names") = some (.ref ml)) (h4 : m (Str.ofString "asked") = some (.ref al)) (h5 : m (Str.ofString "found") = some (.ref fl)) 
inductive JJ (b : Nat) (W : List Nat) (names : List (List Nat)) (nc wl nl ml al fl : Addr) (i : Nat) (m : Str → Option Value) (nw : List (Addr × Obj)) : Prop
  | mk (ys zs : List Value) (n1 n2 : Nat) (o5 : Obj) (c5 : Option Value) (prs : List (Addr × Obj)) (h0 : nw = (al, lstN ys n1) :: (fl, lstN zs n2) :: (nc, o5) :: prs) (h1 : o5.data = .cell c5) (h2 : (∀ p ∈ prs, p.1 ≠ al)) (h3 : (∀ p ∈ prs, p.1 ≠ fl)) (h4 : (∀ p ∈ prs, p.1 ≠ nc)) (h5 : StrL ys ((names.take i).filter (standB (piecesF W b)))) (h6 : PairL prs W zs ((names.take i).filter (nearB W b))) (h7 : m (Str.ofString "wants") = some (.ref wl)) (h8 : m (Str.ofString "numbers") = some (.ref nl)) (h9 : m (Str.ofString "names") = some (.ref ml)) (h10 : m (Str.ofString "asked") = some (.ref al)) (h11 : m (Str.ofString "found") = some (.ref fl)) 
theorem laid7 : True := by
  k_with "eval ListComp" => ((with_reducible show wpAny _ _ (eval (Expr.ListComp _ _ _ _) _) _ _ _); refine lc_stop ?_)
  trivial
theorem law_seg3 {w : World} {A : Around} {s : Shared} {g : Heap} {L f : Addr} {cdv' : Value} {Q : Flow → Shared → Prop} {m : Str → Option Value}
   {name qual : Str} {params : Arguments} {body : List Stmt} {scope : Scope} {dV kV doc pm cdv ct oc : Value} {an od : Option Addr} {osl : Array (Option Value)}
   {b : Nat} {W : List Nat} {o2 o3 o5 : Obj} {wl nl ml al fl : Addr} {wv nv mv : List Value} {nums : List Int} {tb tw : Tok}
   (ho : (hd.heap_39 w.params).lookup 80 = some ⟨oc, od, .func (fnOf name qual params body scope dV kV doc pm an cdv ct), osl⟩)
   (X : Amb w g) (R : Room 4 200 A) (O : Own g L s.heap m [(al, lstN [] 0), (fl, lstN [] 0), (L + 1 + 1 + 1 + 1 + 1, o5)])
   (hc2 : g.get? (L + 1 + 1) = some o2) (h2 : o2.data = .cell (some (.int (b : Int) tb))) (hc3 : g.get? (L + 1 + 1 + 1) = some o3) (h3 : o3.data = .cell (some (.str (S W) tw))) (h5 : o5.data = .cell none)
   (hml : g.IsList ml mv.toArray) (hnl : g.IsList nl nv.toArray) (hwl : g.IsList wl wv.toArray)
   (hWS : StrL wv (wantsUp (piecesF W b) (b + 1))) (hNI : IntsAre nv nums) (hNl : nums.length ≤ 9) (hSN : StrL mv (nums.map fun n => nmAt W n 3)) (hWl : W.length = 5) (hWc : ∀ c ∈ W, Ltr c) (hb : b < 4)
   (lt5 : L + 1 + 1 + 1 + 1 + 1 < al) (lt6 : al < fl) (m1 : m (Str.ofString "wants") = some (.ref wl)) (m2 : m (Str.ofString "numbers") = some (.ref nl)) (m3 : m (Str.ofString "names") = some (.ref ml)) (m4 : m (Str.ofString "asked") = some (.ref al)) (m5 : m (Str.ofString "found") = some (.ref fl)) :
   wpAny (MP w) A (execs ((body.drop 9).take 1) (envOfC qual scope L f cdv')) (CutEnd g L (I3 b W (nums.map fun n => nmAt W n 3) (L + 1 + 1 + 1 + 1 + 1) ml al fl) s Q) NoE s := by
  walk_at "fill"
  refine' by_def (P := fun body scope qual => wpAny (MP w) A (execs ((body.drop 9).take 1) (envOfC qual scope L f cdv')) _ NoE s) body scope ho ?ho ?_
  case ho => k_is
  dsimp only [List.take, List.drop]
  clear ho
  rcases s with ⟨h₀, p₀, q₀, r₀, u₀⟩
  dsimp only at O
  have hnv : nv.length ≤ 9 := by rw [hNI.length]; exact hNl
  have hnn : nv.length = nums.length := hNI.length
  have G := piecesF_good hWl hb hWc
  have d1 : al ≠ L + 1 + 1 + 1 + 1 + 1 := Nat.ne_of_gt lt5
  have d2 : fl ≠ L + 1 + 1 + 1 + 1 + 1 := Nat.ne_of_gt (Nat.lt_trans lt5 lt6)
  have d3 : fl ≠ al := Nat.ne_of_gt lt6
  have d4 : L + 1 + 1 + 1 + 1 + 1 ≠ al := d1.symm
  have d5 : L + 1 + 1 + 1 + 1 + 1 ≠ fl := d2.symm
  have d6 : al ≠ fl := d3.symm
  k_steps
  rename Own _ _ _ _ _ => O₁
  rename IsRange _ _ _ _ _ _ _ _ => iR
  refine' for_rangeG nums.length (JJ b W (nums.map fun n => nmAt W n 3) (L + 1 + 1 + 1 + 1 + 1) wl nl ml al fl) R.hh O₁ iR (by decide) (by decide) (by simp only [List.size_toArray]; omega) (by simp only [List.size_toArray]; omega) (by simp only [List.size_toArray]; omega) ?f1 ?f2 ?f3
  case f1 => exact ⟨[], [], 0, 0, o5, _, [], rfl, h5, List.forall_mem_nil _, List.forall_mem_nil _, List.forall_mem_nil _, .nil, .nil, by walk_at "lk", by walk_at "lk", by walk_at "lk", by walk_at "lk", by walk_at "lk"⟩
  case f3 =>
    rintro m' nw' h tk ⟨ys, zs, n1, n2, o5', c5, prs, rfl, _, _, _, _, hy, hz, _, _, e3, e4, e5⟩ O'
    clear O₁
    rw [List.take_of_length_le (by simp)] at hy hz
    k_steps
    all_goals (try dsimp only [CutEnd])
    exact ⟨_, _, _, _, rfl, O', ys, zs, n1, n2, o5', prs, rfl, hy, hz, e3, e4, e5⟩
  case f2 =>
    rintro i m' nw' g₁ h tk tx hi ⟨ys, zs, n1, n2, o5', c5, prs, rfl, h5', ne1, ne2, ne3, hy, hz, e1, e2, e3, e4, e5⟩ kg O'
    rw [Int.zero_add] at *
    have X₁ : Amb w g₁ := X.stay kg
    have hc2' := kg _ _ hc2
    have hc3' := kg _ _ hc3
    have hml' : g₁.IsList ml mv.toArray := hml.at fun o e => kg _ o e
    have hnl' : g₁.IsList nl nv.toArray := hnl.at fun o e => kg _ o e
    have hwl' : g₁.IsList wl wv.toArray := hwl.at fun o e => kg _ o e
    clear O₁ X hc2 hc3 hml hnl hwl m1 m2 m3 m4 m5 h5
    have hni : nums[i]? = some nums[i] := List.getElem?_eq_getElem hi
    obtain ⟨tn, hgn⟩ := ints_get' hNI hni
    have hmi : (nums.map fun n => nmAt W n 3)[i]? = some (nmAt W nums[i] 3) := by rw [List.getElem?_map, hni]; rfl
    obtain ⟨tm, hgm⟩ := hSN.get hmi
    have hnmL : (nmAt W nums[i] 3).length ≤ 20 := by have := nmAt_len (word := W) (number := nums[i]) 3; omega
    have hnmC : ∀ c ∈ nmAt W nums[i] 3, Ltr c := nmAt_ltr hWc 3
    have hstr : stripF (msgF (nmAt W nums[i] 3) nums[i]) = nmAt W nums[i] 3 := strip_msg hnmC
    generalize nmAt W nums[i] 3 = nm at *
    generalize nums[i] = num at *
    replace hgn : nv.toArray[((i : Int)).toNat]? = some (.int num tn) := by rw [Int.toNat_natCast]; simpa using hgn
    replace hgm : mv.toArray[((i : Int)).toNat]? = some (.str (S nm) tm) := by rw [Int.toNat_natCast]; simpa using hgm
    have hmv : mv.length = nums.length := by rw [hSN.length, List.length_map]
    k_steps
    rename Own _ _ _ _ _ => O₂
    refine msg_spec (X₁.stay O₂.keep) (R.less (by decide) (by decide)) hnmL fun t7 h7 tk7 st => ?_
    have O₃ := O₂.stay st
    clear O₂ st
    k_steps
    rename Own _ _ _ _ _ => O₂
    refine strip_spec (X₁.stay O₂.keep) (R.less (by decide) (by decide)) (by have := msgF_len (name := nm) (number := num); omega) fun t8 h8 tk8 st => ?_
    rw [hstr]
    have O₃ := O₂.stay st
    clear O₂ st hstr
    k_steps
    rename _ = Data.cell (some (Value.str _ _)) => h6
    rename_i o6
    replace h6 : ∃ t, o6.data = .cell (some (.str (S nm) t)) := ⟨_, h6⟩
    obtain ⟨t6, h6⟩ := h6
    refine' cac_here (cl := [(Str.ofString "name", L + 1 + 1 + 1 + 1 + 1)]) ?a1 ?a2 ?a3 ?a4 ?_
    case a1 => rfl
    case a2 => rfl
    case a3 => rfl
    case a4 => decide
    k_steps
    rename Own _ _ _ _ _ => O₂
    have hwvl : wv.length = (wantsUp (piecesF W b) (b + 1)).length := hWS.length
    refine' comp_listD (fun _ => true) (fun v y nw' => nw' = [] ∧ ∃ (x : List Nat) (t : Tok), v = .str (S x) t ∧ y = .bool (fitB (piecesF W b) nm x)) R.hh O₂ (isl_B hwl' O₂) ?b0 ?b1 ?b2 ?b3 ?b4 ?b5 ?b6
    case b0 => rw [hwvl]; exact Nat.le_trans (wantsUp_len (by omega)) (by decide)
    case b1 => decide
    case b2 => rfl
    case b3 => rfl
    case b4 => exact fun i t hi => tests_nilD
    case b5 =>
      intro i v hv _ C s₃ g₂ m₃ kg₂ hnw O₄ hm
      obtain ⟨x, t, rfl, hx⟩ := hWS.at hv
      obtain ⟨wi, wj, hij, hjl, rfl⟩ := mem_wantsUp.mp (List.mem_of_getElem? hx)
      have hc5 : g₂.get? (L + 1 + 1 + 1 + 1 + 1) = some o6 := hnw (L + 1 + 1 + 1 + 1 + 1, o6) (by simp)
      have X₂ : Amb w g₂ := X₁.stay kg₂
      clear O₂ X₁
      rcases s₃ with ⟨h₃, p₃, q₃, r₃, u₃⟩
      dsimp only at O₄
      k_steps
      rename Own _ _ _ _ _ => O₅
      refine ell_any (X₂.stay O₅.keep) (R.less (by decide) (by decide)) G hij (by rw [piecesF_len]; omega) (by omega) fun h' tk st => ?_
      have O₆ := O₅.stay st
      clear O₅
      k_steps
      all_goals (try dsimp only)
      exact TEnd.mk [] O₆ ⟨rfl, _, _, rfl, rfl⟩
    case b6 =>
      refine' fin_some ?c1 ?c2
      case c2 => rintro v z nw' ⟨hf, _⟩ q hq; rw [hf] at hq; cases hq
      intro D h' tk fv kk vs' hD O₅ hlen hP hF
      clear O₂
      have hvs : vs' = wv := List.ext_getElem? fun j => by
        rcases Nat.lt_or_ge j vs'.length with hj | hj
        · rw [List.getElem?_eq_getElem hj, hP j _ (List.getElem?_eq_getElem hj)]
        · rw [List.getElem?_eq_none hj, List.getElem?_eq_none (by omega)]
      subst hvs
      rw [List.filter_eq_self.mpr (by simp)] at hF
      have hfv : fv = ((wantsUp (piecesF W b) (b + 1)).map (fitB (piecesF W b) nm)).map .bool := bools_of (fitB (piecesF W b) nm) hWS hF fun v y hr => hr.elim fun nw' hr => hr.2.2
      have hany : ((wantsUp (piecesF W b) (b + 1)).map (fitB (piecesF W b) nm)).any id = standB (piecesF W b) nm := by rw [List.any_map]; exact fit_any piecesF_len
      have hbl : ((wantsUp (piecesF W b) (b + 1)).map (fitB (piecesF W b) nm)).length ≤ 30 := by rw [List.length_map]; exact wantsUp_len (by omega)
      generalize (wantsUp (piecesF W b) (b + 1)).map (fitB (piecesF W b) nm) = bs at *
      subst hfv
      clear hF hP hlen
      have e7 : D ≠ al := fun e => hD (al, lstN ys n1) (by simp) e.symm
      have e8 : D ≠ fl := fun e => hD (fl, lstN zs n2) (by simp) e.symm
      k_steps
      unfold LcStop
      refine' clc_here (cl := []) ?a1 ?a2 ?a3 ?_
      case a1 => rfl
      case a2 => rfl
      case a3 => decide
      k_steps
      rename Own _ _ _ _ _ => O₂
      refine' comp_listD (fun _ => false) (fun v y nw' => nw' = []) R.hh O₂ (isl_0 O₂) ?b0 ?b1 ?b2 ?b3 ?b4 ?b5 ?b6
      case b0 => rw [List.length_map]; omega
      case b1 => decide
      case b2 => rfl
      case b3 => rfl
      case b5 => intro i v hv hf; cases hf
      case b4 =>
        intro i v hv
        obtain ⟨c, rfl⟩ := bool_at hv
        refine tests_oneD ?_
        intro C s₃ g₂ m₃ kg₂ hnw O₄ hm
        clear O₂
        rcases s₃ with ⟨h₃, p₃, q₃, r₃, u₃⟩
        dsimp only at O₄
        k_steps
        all_goals first
          | exact TEnd.mk [] (by assumption) rfl
          | exact no_third (by with_reducible assumption) (by with_reducible assumption)
      case b6 =>
        refine' fin_none ?_
        intro D2 h' tk gv kk2 vs2 hD2 O₅ hlen hP hF
        clear O₂
        rw [List.filter_eq_nil_iff.mpr (by simp)] at hF
        obtain rfl := paired_nil hF
        clear hF hP hlen
        k_steps
        rename Own _ _ _ _ _ => O₂
        refine neStrL (R.less (n' := 0) (u' := 0) (by decide) (by decide)).hu (isl_1 O₂) (isl_0 O₂) .nil .nil ?_
        replace O₂ := O₂.drop2
        clear hD2
        k_steps
        rename Own _ _ _ _ _ => O₂
        refine inBools (isl_0 O₂) ?_
        rw [hany]
        replace O₂ := O₂.drop1
        clear e7 e8 hD
        have hyl : ys.length ≤ 9 := by rw [hy.length]; exact Nat.le_trans (List.length_filter_le _ _) (by rw [List.length_take, List.length_map]; omega)
        have hzl : zs.length ≤ 9 := by rw [hz.length]; exact Nat.le_trans (List.length_filter_le _ _) (by rw [List.length_take, List.length_map]; omega)
        cases hst : standB (piecesF W b) nm with
        | false =>
          k_steps
          all_goals (try dsimp only [TurnEnd])
          refine ⟨_, _, _, _, rfl, by assumption, ys, zs, n1, n2, o6, _, prs, rfl, h6, ne1, ne2, ne3, ?_, ?_, by walk_at "lk", by walk_at "lk", by walk_at "lk", by walk_at "lk", by walk_at "lk"⟩
          · rw [filt_out hmi hst]; exact hy
          · rw [filt_out hmi (near_no hWl hb hst)]; exact hz
        | true =>
          k_steps
          rename Own _ _ _ _ _ => O₂
          refine lev_spec (X₁.stay O₂.keep) (R.less (by decide) (by decide)) (by omega) hnmL hWc hnmC fun r t9 h9 tk9 st hrel => ?_
          have O₃ := O₂.stay st
          clear O₂ st
          have hlp := lev_price (by omega) hrel
          clear hrel
          k_steps
          · rename _ ≤ _ => hle
            rename Own _ _ _ _ _ => O₂
            rename_i pa _ ltp
            have e7 : pa ≠ al := Nat.ne_of_gt (ltp (al, _) (.head _))
            have e8 : pa ≠ fl := Nat.ne_of_gt (ltp (fl, _) (.tail _ (.head _)))
            have e9 : pa ≠ L + 1 + 1 + 1 + 1 + 1 := Nat.ne_of_gt (ltp (L + 1 + 1 + 1 + 1 + 1, _) (.tail _ (.tail _ (.head _))))
            have hr := hlp.2 hle
            have hnear : nearB W b nm = true := decide_eq_true (hlp.1.mp hle)
            clear hlp hle ltp
            subst hr
            refine' appendO2 O₂ ?n1 (by omega) ?_
            case n1 => walk_at "nes"
            intro h' n' O₃
            clear O₂
            replace O₃ := O₃.rot
            k_steps
            all_goals (try dsimp only [TurnEnd])
            refine ⟨_, _, _, _, rfl, O₃, _, zs ++ [.ref pa], _, _, o6, _, _, rfl, h6, ?_, ?_, ?_, ?_, ?_, by walk_at "lk", by walk_at "lk", by walk_at "lk", by walk_at "lk", by walk_at "lk"⟩
            · walk_at "nes"
            · walk_at "nes"
            · walk_at "nes"
            · rw [filt_in hmi hst]; exact hy.snoc _ _
            · rw [filt_in hmi hnear]; exact (hz.more fun p hp => .tail _ hp).snoc (.head _)
          · rename ¬ _ ≤ _ => hle
            rename Own _ _ _ _ _ => O₂
            have hnear : nearB W b nm = false := decide_eq_false fun h => hle (hlp.1.mpr h)
            all_goals (try dsimp only [TurnEnd])
            refine ⟨_, _, _, _, rfl, O₂, _, zs, _, n2, o6, _, prs, rfl, h6, ne1, ne2, ne3, ?_, ?_, by walk_at "lk", by walk_at "lk", by walk_at "lk", by walk_at "lk", by walk_at "lk"⟩
            · rw [filt_in hmi hst]; exact hy.snoc _ _
            · rw [filt_out hmi hnear]; exact hz
theorem laid8 : True := by
  k_with "eval ListComp" => ((with_reducible show wpAny _ _ (eval (Expr.ListComp _ _ _ _) _) _ _ _); refine lc_stop ?_)
  trivial
theorem law_seg4 {w : World} {A : Around} {s : Shared} {g : Heap} {L f : Addr} {cdv' : Value} {Q : Flow → Shared → Prop} {m : Str → Option Value} {nw : List (Addr × Obj)}
   {name qual : Str} {params : Arguments} {body : List Stmt} {scope : Scope} {dV kV doc pm cdv ct oc : Value} {an od : Option Addr} {osl : Array (Option Value)}
   {b : Nat} {W : List Nat} {o2 o3 o4 : Obj} {ml al fl pl nc : Addr} {mv items : List Value} {names : List (List Nat)} {tb tw : Tok}
   (ho : (hd.heap_39 w.params).lookup 80 = some ⟨oc, od, .func (fnOf name qual params body scope dV kV doc pm an cdv ct), osl⟩)
   (X : Amb w g) (R : Room 4 200 A) (O : Own g L s.heap m nw) (hI3 : I3 b W names nc ml al fl m nw)
   (hc2 : g.get? (L + 1 + 1) = some o2) (h2 : o2.data = .cell (some (.int (b : Int) tb))) (hc3 : g.get? (L + 1 + 1 + 1) = some o3) (h3 : o3.data = .cell (some (.str (S W) tw))) (hc4 : g.get? (L + 1 + 1 + 1 + 1) = some o4) (h4 : o4.data = .cell (some (.ref pl)))
   (hml : g.IsList ml mv.toArray) (hpl : g.IsList pl items.toArray) (hSL : StrL items (piecesF W b))
   (hSN : StrL mv names) (hNl : names.length ≤ 9) (hN : ∀ x ∈ names, x.length ≤ 20 ∧ ∀ c ∈ x, Ltr c) (hWl : W.length = 5) (hWc : ∀ c ∈ W, Ltr c) (hb : b < 4)
   (hQ : ∀ h' tk, Stay g h' → Q (.ret (.bool true)) { s with heap := h', toks := tk }) :
   wpAny (MP w) A (execs (body.drop 10) (envOfC qual scope L f cdv')) Q NoE s := by
  walk_at "fill"
  refine' by_def (P := fun body scope qual => wpAny (MP w) A (execs (body.drop 10) (envOfC qual scope L f cdv')) _ NoE s) body scope ho ?ho ?_
  case ho => k_is
  dsimp only [List.drop]
  clear ho
  rcases s with ⟨h₀, p₀, q₀, r₀, u₀⟩
  dsimp only at O hQ
  obtain ⟨ys, zs, n1, n2, o5, prs, rfl, hy, hz, m3, m4, m5⟩ := hI3
  have hmv : mv.length = names.length := hSN.length
  k_steps
  unfold LcStop
  refine' clc_here (cl := [(Str.ofString "pieces", L + 1 + 1 + 1 + 1)]) ?a1 ?a2 ?a3 ?_
  case a1 => rfl
  case a2 => rfl
  case a3 => decide
  k_steps
  rename Own _ _ _ _ _ => O₂
  refine' comp_listD (pS (piecesF W b)) (fun v y nw' => nw' = [] ∧ y = v) R.hh O₂ (isl_B hml O₂) (by omega) ?b1 ?b2 ?b3 ?b4 ?b5 ?b6
  case b1 => decide
  case b2 => rfl
  case b3 => rfl
  case b4 =>
    intro i v hv
    obtain ⟨x, t, rfl, hx⟩ := hSN.at hv
    refine tests_oneD ?_
    intro C s₃ g₂ m₃ kg₂ hnw O₄ hm
    have hc4' := kg₂ _ _ hc4
    have hpl' : g₂.IsList pl items.toArray := hpl.at fun o e => kg₂ _ o e
    have X₂ : Amb w g₂ := X.stay kg₂
    clear O₂ X hc4 hpl hc2 hc3
    rcases s₃ with ⟨h₃, p₃, q₃, r₃, u₃⟩
    dsimp only at O₄
    k_steps
    rename Own _ _ _ _ _ => O₅
    refine stands_spec (X₂.stay O₅.keep) (R.less (by decide) (by decide)) (isl_B hpl' O₅) hSL (by rw [piecesF_len]; omega) (by rw [piecesF_len]; omega) (piecesF_len5 hWl) (hN x (List.mem_of_getElem? hx)).1 fun c h' tk st hc => ?_
    have O₆ := O₅.stay st
    clear O₅
    k_steps
    all_goals (try dsimp only)
    exact TEnd.mk [] O₆ (by rw [pS_at, Bool.eq_iff_iff, standB_iff]; exact hc)
  case b5 =>
    intro i v hv hp C s₃ g₂ m₃ kg₂ hnw O₄ hm
    clear O₂ X hc4 hpl hc2 hc3
    rcases s₃ with ⟨h₃, p₃, q₃, r₃, u₃⟩
    dsimp only at O₄
    k_steps
    all_goals (try dsimp only)
    exact TEnd.mk [] (by assumption) ⟨rfl, rfl⟩
  case b6 =>
    refine' fin_none ?_
    intro D h' tk ys2 kk vs' hD O₅ hlen hP hF
    clear O₂
    have hvs : vs' = mv := List.ext_getElem? fun j => by
      rcases Nat.lt_or_ge j vs'.length with hj | hj
      · rw [List.getElem?_eq_getElem hj, hP j _ (List.getElem?_eq_getElem hj)]
      · rw [List.getElem?_eq_none hj, List.getElem?_eq_none (by omega)]
    subst hvs
    have hy2 : StrL ys2 (names.filter (standB (piecesF W b))) := by
      rw [paired_same hF fun v y hr => hr.elim fun nw' hr => hr.2.2]; exact strl_filter hSN
    clear hF hP hlen hD
    k_steps
    rename Own _ _ _ _ _ => O₂
    refine neStrL (R.less (n' := 0) (u' := 0) (by decide) (by decide)).hu (isl_1 O₂) (isl_0 O₂) hy hy2 ?_
    replace O₂ := O₂.drop1
    clear hy2 hy
    k_steps
    refine' cac_here (cl := [(Str.ofString "word", L + 1 + 1 + 1)]) ?a1 ?a2 ?a3 ?a4 ?_
    case a1 => rfl
    case a2 => rfl
    case a3 => rfl
    case a4 => decide
    k_steps
    rename Own _ _ _ _ _ => O₂
    refine' comp_listD (fun _ => true) (fun v y nw' => ∃ (x : List Nat) (t t' u : Tok) (p : Addr) (n : Nat), v = .str (S x) t ∧ y = .ref p ∧ nw' = [(p, prO W x t' u n)]) R.hh O₂ (isl_B hml O₂) (by omega) ?b1 ?b2 ?b3 ?b4 ?b5 ?b6
    case b1 => decide
    case b2 => rfl
    case b3 => rfl
    case b4 => exact fun i t hi => tests_nilD
    case b5 =>
      intro i v hv _ C s₃ g₂ m₃ kg₂ hnw O₄ hm
      obtain ⟨x, t, rfl, hx⟩ := hSN.at hv
      have hx' := hN x (List.mem_of_getElem? hx)
      have hc3' := kg₂ _ _ hc3
      have X₂ : Amb w g₂ := X.stay kg₂
      clear O₂ X hc4 hpl hc2 hc3
      rcases s₃ with ⟨h₃, p₃, q₃, r₃, u₃⟩
      dsimp only at O₄
      k_steps
      rename Own _ _ _ _ _ => O₅
      refine price_spec (X₂.stay O₅.keep) (R.less (by decide) (by decide)) (by omega) hx'.1 hWc hx'.2 fun t' h' tk st => ?_
      have O₆ := O₅.stay st
      clear O₅
      k_steps
      all_goals (try dsimp only)
      rename Own _ _ _ _ _ => O₅
      exact TEnd.mk _ O₅ ⟨x, _, _, _, _, 0, rfl, rfl, rfl⟩
    case b6 =>
      refine' fin_someL ?c1 ?c2
      case c2 => rintro v z nw' ⟨x, t, t', u, p, n, _, _, rfl⟩ q hq; rw [List.mem_singleton.mp hq]; exact ⟨_, _, rfl⟩
      intro D2 h' tk yv k2 vs2 hD2 O₅ hlen hP hF
      clear O₂
      have hvs : vs2 = vs' := List.ext_getElem? fun j => by
        rcases Nat.lt_or_ge j vs2.length with hj | hj
        · rw [List.getElem?_eq_getElem hj, hP j _ (List.getElem?_eq_getElem hj)]
        · rw [List.getElem?_eq_none hj, List.getElem?_eq_none (by omega)]
      subst hvs
      rw [List.filter_eq_self.mpr (by simp)] at hF
      have hyv : PairH h' W yv names := pairh_of hSN hF fun v y ⟨nw', hq, x, t, t', u, p, n, e1, e2, e3⟩ => by
        subst e3; exact ⟨x, t, t', u, p, n, e1, e2, (hq _ (.head _)).1⟩
      clear hF hP hlen hD2
      obtain ⟨g₁, O₁, kg, kh, up⟩ := (O₅.sub (nw' := []) (fun _ h => nomatch h)).rebase
      replace up : ∀ b o, h'.get? b = some o → b ≠ L → g₁.get? b = some o := fun b o e hb => up b o e hb fun _ h => nomatch h
      have hyv1 : PairH g₁ W yv names := pairh_base O₅.ns up hyv
      have hup : ∀ q ∈ (D2, lstN yv k2) :: (al, lstN ys n1) :: (fl, lstN zs n2) :: (nc, o5) :: prs, g₁.get? q.1 = some q.2 := fun q hq => up _ _ (O₅.nws q hq).1 (O₅.nws q hq).2.1
      have hz1 : PairH g₁ W zs (names.filter (nearB W b)) := hz.toH fun p hp => hup p (.tail _ (.tail _ (.tail _ (.tail _ hp))))
      have hfl : g₁.IsList fl zs.toArray := ⟨_, hup (fl, lstN zs n2) (.tail _ (.tail _ (.head _))), rfl, _, rfl⟩
      have hDl : g₁.IsList D2 yv.toArray := ⟨_, hup (D2, lstN yv k2) (.head _), rfl, _, rfl⟩
      have hc2' := kg _ _ hc2
      have hyl : yv.length = names.length := hyv.length
      replace hQ : ∀ h' tk, Stay g₁ h' → Q (.ret (.bool true)) { heap := h', gens := p₀, drawn := q₀, toks := tk, os := u₀ } := fun h' tk st => hQ h' tk (kg.tr st)
      clear hup up kh O₅ X hc2 hc3 hc4 hml hpl hz hyv kg
      dsimp only
      k_steps
      unfold LcStop
      refine' clc_here (cl := [(Str.ofString "bound", L + 1 + 1)]) ?a1 ?a2 ?a3 ?_
      case a1 => rfl
      case a2 => rfl
      case a3 => decide
      k_steps
      rename Own _ _ _ _ _ => O₂
      refine' comp_listD (pN g₁ W b) (fun v y nw' => nw' = [] ∧ y = v) R.hh O₂ (isl_B hDl O₂) (by omega) ?b1 ?b2 ?b3 ?b4 ?b5 ?b6
      case b1 => decide
      case b2 => rfl
      case b3 => rfl
      case b4 =>
        intro i v hv
        obtain ⟨p, t, u, n, x, rfl, hg, hx⟩ := hyv1.at hv
        refine tests_oneD ?_
        intro C s₃ g₂ m₃ kg₂ hnw O₄ hm
        have hc2'' := kg₂ _ _ hc2'
        have hpr := prO_list (kg₂ _ _ hg)
        clear O₂ hc2'
        rcases s₃ with ⟨h₃, p₃, q₃, r₃, u₃⟩
        dsimp only at O₄
        k_steps
        all_goals (try dsimp only)
        exact TEnd.mk [] (by assumption) (by rw [pN_at hg]; rfl)
      case b5 =>
        intro i v hv hp C s₃ g₂ m₃ kg₂ hnw O₄ hm
        clear O₂
        rcases s₃ with ⟨h₃, p₃, q₃, r₃, u₃⟩
        dsimp only at O₄
        k_steps
        all_goals (try dsimp only)
        exact TEnd.mk [] (by assumption) ⟨rfl, rfl⟩
      case b6 =>
        refine' fin_none ?_
        intro D3 h' tk yv2 k3 vs3 hD3 O₅ hlen hP hF
        clear O₂
        have hvs : vs3 = yv := List.ext_getElem? fun j => by
          rcases Nat.lt_or_ge j vs3.length with hj | hj
          · rw [List.getElem?_eq_getElem hj, hP j _ (List.getElem?_eq_getElem hj)]
          · rw [List.getElem?_eq_none hj, List.getElem?_eq_none (by omega)]
        subst hvs
        have hy3 : PairH g₁ W yv2 (names.filter (nearB W b)) := by
          rw [paired_same hF fun v y hr => hr.elim fun nw' hr => hr.2.2]; exact pairh_filter hyv1
        clear hF hP hlen hD3
        k_steps
        rename Own _ _ _ _ _ => O₂
        refine eqPairs (R.less (n' := 0) (u' := 0) (by decide) (by decide)).hu (Nat.lt_of_le_of_lt in1_units (R.less (n' := 0) (u' := 3) (by decide) (by decide)).hu) (isl_B hfl O₂) (isl_0 O₂) (hz1.stay O₂.keep) (hy3.stay O₂.keep) ?_
        k_steps
        all_goals (try dsimp only)
        exact hQ _ _ O₂.keep
theorem law_main {w : World} {A : Around} {s : Shared} {g : Heap} {L a f : Addr} {vs : List Value} {ns : List Int} {o1 o2 o3 o4 o5 : Obj} {cdv' : Value} {Q : Flow → Shared → Prop}
   {name qual : Str} {params : Arguments} {body : List Stmt} {scope : Scope} {dV kV doc pm cdv ct oc : Value} {an od : Option Addr} {osl : Array (Option Value)}
   (ho : (hd.heap_39 w.params).lookup 80 = some ⟨oc, od, .func (fnOf name qual params body scope dV kV doc pm an cdv ct), osl⟩)
   (X : Amb w g) (R : Room 4 200 A) (hl : g.IsList a vs.toArray) (hI : IntsAre vs ns) (hn : ns.length ≤ 63)
   (O : Own g L s.heap (upd (fun _ => none) (Str.ofString "script") (.ref a)) [(L + 1 + 1 + 1 + 1 + 1, o5), (L + 1 + 1 + 1 + 1, o4), (L + 1 + 1 + 1, o3), (L + 1 + 1, o2), (L + 1, o1)])
   (h1 : o1.data = .cell none) (h2 : o2.data = .cell none) (h3 : o3.data = .cell none) (h4 : o4.data = .cell none) (h5 : o5.data = .cell none)
   (hQ : ∀ h' tk, Stay g h' → Q (.ret (.bool true)) { s with heap := h', toks := tk }) :
   wpAny (MP w) A (execs body (envOfC qual scope L f cdv')) Q NoE s := by
  refine execs_cut (g := g) (L := L) 4 (I1 L a) (law_seg1 ho X R hl hI hn O h1 h2 h3 h4 h5) fun hA tkA mA nwA OA IA => ?_
  refine execs_cut (g := g) (L := L) 5 (I2 L) (law_seg2 ho X R hl hI hn OA IA) fun hB tkB mB nwB OB IB => ?_
  rw [List.drop_drop]
  clear OA IA O h1 h2 h3 h4 h5 hl hI hn
  obtain ⟨b, W, o2, o3, o4, o5, ow, pl, wl, nl, ml, al, fl, items, wv, nv, mv, nums, k1, k2, k3, tb, tw, rfl, h2, h3, h4, h5, hSL, iL, hWS, hNI, hNl, hSN, hWl, hWc, hb, lt1, lt2, lt3, lt4, lt5, lt6, m1, m2, m3, m4, m5⟩ := IB
  obtain ⟨g₁, O₁, kg, kh, up⟩ := (OB.sub (nw' := [(al, lstN [] 0), (fl, lstN [] 0), (L + 1 + 1 + 1 + 1 + 1, o5)]) (by
    intro p hp
    simp only [List.mem_cons, List.not_mem_nil, or_false] at hp
    rcases hp with rfl | rfl | rfl
    · exact .tail _ (.head _)
    · exact .head _
    · exact .tail _ (.tail _ (.tail _ (.tail _ (.tail _ (.tail _ (.head _)))))))).rebase
  have bs : ∀ q o, (q, o) ∈ [(fl, lstN [] 0), (al, lstN [] 0), (ml, lstN mv k1), (nl, lstN nv k2), (wl, ow), (pl, lstN items k3), (L + 1 + 1 + 1 + 1 + 1, o5), (L + 1 + 1 + 1 + 1, o4), (L + 1 + 1 + 1, o3), (L + 1 + 1, o2)] → q < al → q ≠ L + 1 + 1 + 1 + 1 + 1 → g₁.get? q = some o := fun q o hm hlt hne => by
    refine up q o (OB.nws _ hm).1 (OB.nws _ hm).2.1 fun p hp => ?_
    simp only [List.mem_cons, List.not_mem_nil, or_false] at hp
    rcases hp with rfl | rfl | rfl
    · exact Nat.ne_of_gt hlt
    · exact Nat.ne_of_gt (Nat.lt_trans hlt lt6)
    · exact Ne.symm hne
  have hcl : ∀ q o, (q, o) ∈ [(fl, lstN [] 0), (al, lstN [] 0), (ml, lstN mv k1), (nl, lstN nv k2), (wl, ow), (pl, lstN items k3), (L + 1 + 1 + 1 + 1 + 1, o5), (L + 1 + 1 + 1 + 1, o4), (L + 1 + 1 + 1, o3), (L + 1 + 1, o2)] → (∃ xs, IsLst o xs) → q ≠ L + 1 + 1 + 1 + 1 + 1 := fun q o hm hx e => by
    obtain ⟨xs, _, n, hx⟩ := hx
    have e1 := (OB.nws _ hm).1
    have e2 := (OB.nws (L + 1 + 1 + 1 + 1 + 1, o5) (by simp)).1
    dsimp only at e1 e2
    rw [e, e2] at e1
    have e3 := Option.some.inj e1
    rw [← e3, h5] at hx
    cases hx
  have gml := bs ml (lstN mv k1) (by simp) lt1 (hcl ml (lstN mv k1) (by simp) ⟨_, isLst_N mv k1⟩)
  have gnl := bs nl (lstN nv k2) (by simp) lt2 (hcl nl (lstN nv k2) (by simp) ⟨_, isLst_N nv k2⟩)
  have gwl := bs wl ow (by simp) lt3 (hcl wl ow (by simp) ⟨_, iL⟩)
  have gpl := bs pl (lstN items k3) (by simp) lt4 (hcl pl (lstN items k3) (by simp) ⟨_, isLst_N items k3⟩)
  have gc4 := bs (L + 1 + 1 + 1 + 1) o4 (by simp) (Nat.lt_trans (Nat.lt_succ_self _) lt5) (Nat.ne_of_lt (Nat.lt_succ_self _))
  have gc3 := bs (L + 1 + 1 + 1) o3 (by simp) (Nat.lt_trans (Nat.lt_trans (Nat.lt_succ_self _) (Nat.lt_succ_self _)) lt5) (Nat.ne_of_lt (Nat.lt_trans (Nat.lt_succ_self _) (Nat.lt_succ_self _)))
  have gc2 := bs (L + 1 + 1) o2 (by simp) (Nat.lt_trans (Nat.lt_trans (Nat.lt_trans (Nat.lt_succ_self _) (Nat.lt_succ_self _)) (Nat.lt_succ_self _)) lt5) (Nat.ne_of_lt (Nat.lt_trans (Nat.lt_trans (Nat.lt_succ_self _) (Nat.lt_succ_self _)) (Nat.lt_succ_self _)))
  have iml : g₁.IsList ml mv.toArray := ⟨_, gml, rfl, _, rfl⟩
  have inl : g₁.IsList nl nv.toArray := ⟨_, gnl, rfl, _, rfl⟩
  have iwl : g₁.IsList wl wv.toArray := ⟨_, gwl, iL⟩
  have ipl : g₁.IsList pl items.toArray := ⟨_, gpl, rfl, _, rfl⟩
  have X₁ : Amb w g₁ := X.stay kg
  clear bs hcl up OB kh gml gnl gwl gpl X
  refine execs_cut (g := g₁) (L := L) 1 (I3 b W (nums.map fun n => nmAt W n 3) (L + 1 + 1 + 1 + 1 + 1) ml al fl) (law_seg3 ho X₁ R O₁ gc2 h2 gc3 h3 h5 iml inl iwl hWS hNI hNl hSN hWl hWc hb lt5 lt6 m1 m2 m3 m4 m5) fun hC tkC mC nwC OC IC => ?_
  rw [List.drop_drop]
  refine law_seg4 ho X₁ R OC IC gc2 h2 gc3 h3 gc4 h4 iml ipl hSL hSN (by rw [List.length_map]; exact hNl) (fun x hx => ?_) hWl hWc hb fun h' tk st => hQ h' tk (kg.tr st)
  obtain ⟨n, _, rfl⟩ := List.mem_map.mp hx
  exact ⟨by have := nmAt_len (word := W) (number := n) 3; omega, nmAt_ltr hWc 3⟩
theorem law_final : Challenge.rw_ph0113_01.Holds := by
  refine Mine.hd ?_
  k_go0
  rename (hd.heap_39 _).In _ => KX
  rename Top _ _ _ _ _ _ => TT
  rename Heap.IsList _ _ _ => hL
  rename IntsAre _ _ => hI
  rename ¬ (_ < _) => hlen
  rename Fr _ _ _ _ => F0
  rename News _ _ _ _ => N0
  have X : Amb _ _ := ⟨KX, ⟨_, _, _, TT⟩⟩
  refine' wpAny_mono (law_main ?ho X ?R hL hI ?hn ?O ?h1 ?h2 ?h3 ?h4 ?h5 ?hQ) (fun _ _ h => h) (fun _ _ e => e.elim)
  case ho => k_is
  case R => exact ⟨rfl, by show callerA.depth + 1 + 4 < recursionLimit; decide, by show callerA.units + 3 + 200 < cLine; decide⟩
  case hn => omega
  case O => exact ⟨F0.ns, F0.keep, get_none F0.above, N0⟩
  case h1 => assumption
  case h2 => assumption
  case h3 => assumption
  case h4 => assumption
  case h5 => assumption
  case hQ =>
    clear F0 N0
    intro h' tk st
    rename Shared.gens _ = _ => hg
    refine ⟨.inl ⟨_, .bool true, [], rfl, raisesW_false ?r1, .bool true, ?r2, unshared_nil⟩, st, rfl, hg⟩
    case r1 => wrow_none_raised
    case r2 => wrow_post
end Mine
end
end
theorem PySem.Challenge.cw_ph0113_01_holds : PySem.Challenge.rw_ph0113_01.Holds := by
  exact Mine.law_final
