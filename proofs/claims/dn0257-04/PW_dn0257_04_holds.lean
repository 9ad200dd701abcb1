import PyProof.Rows.All
import Wide.All
import OpenK.AllK
import Wide.FinOn
import PySem.Challenge.RW_dn0257_04
open PySem PySem.W PySem.Calls PyProof.Rows
set_option Elab.async false
namespace Mine
theorem runs_toks {M : Model} {Γ : Ctx} {p : Pos} {t : Sem Fin} {fs : List Frame} {s s' : Shared} {e : End} (h : Runs M Γ p t fs s e s') : s.toks ≤ s'.toks := by
  induction h with
  | done => exact Nat.le_refl _
  | raise => exact Nat.le_refl _
  | yield => exact Nat.le_refl _
  | fresh _ ih => exact Nat.le_trans (Nat.le_succ _) ih
  | call _ _ ih1 ih2 => exact Nat.le_trans ih1 ih2
  | resumeFresh _ _ _ _ ih1 ih2 => exact Nat.le_trans ih1 ih2
  | resumeSuspended _ _ _ _ ih1 ih2 => exact Nat.le_trans ih1 ih2
  | segRet _ _ ih1 ih2 => exact Nat.le_trans ih1 ih2
  | segGen _ _ ih1 ih2 => exact Nat.le_trans ih1 ih2
  | segSuspGen _ _ _ _ ih1 ih2 => exact Nat.le_trans ih1 ih2
  | _ => first | assumption | (rename_i ih; exact ih)
theorem wakes_toks {M : Model} {Γ : Ctx} {p : Pos} {g : Nat} {r : Resume} {s s' : Shared} {res : GenResult} (h : Wakes M Γ p g r s res s') : s.toks ≤ s'.toks := by
  unfold Wakes at h
  split at h
  · exact h.elim
  · split at h
    · obtain ⟨e₁, s₁, h1, _, _, rfl⟩ := h; have h2 := runs_toks h1; exact h2
    · rw [h.2]; exact Nat.le_refl _
    · rw [h.2]; exact Nat.le_refl _
  · obtain ⟨e₁, s₁, h1, _, _, rfl⟩ := h; have h2 := runs_toks h1; exact h2
  · rw [h.2]; exact Nat.le_refl _
  · rw [h.2]; exact Nat.le_refl _
theorem wp_toks {X : Type} (M : Model) (Γ : Ctx) (tree : Sem X) (n : Nat) {post : X → Pos → Shared → Prop} {exc : Value → Pos → Shared → Prop} : ∀ (pos : Pos) (sh : Shared), n ≤ sh.toks →
    Sem.wp M Γ tree post exc pos sh → Sem.wp M Γ tree (fun x p s => post x p s ∧ n ≤ s.toks) (fun v p s => exc v p s ∧ n ≤ s.toks) pos sh := by
  induction tree with
  | pure x => exact fun p s h k => ⟨k, h⟩
  | raise v => exact fun p s h k => ⟨k, h⟩
  | unsupported | finish | yield | fork | await | register => exact fun _ _ _ k => k
  | rule _ k ih | «at» _ k ih | alloc _ k ih | loadIfAlive _ k ih | point _ k ih | ask k ih | os _ _ k ih | handled _ k ih | newGen _ k ih | stack k ih | thread k ih => exact fun p s h k => ih _ _ _ h k
  | fresh k ih => exact fun p s h k => ih _ _ _ (Nat.le_trans h (Nat.le_succ _)) k
  | load a _ k ih | genState a k ih => exact fun p s hn ⟨o, ho, h⟩ => ⟨o, ho, ih _ _ _ hn h⟩
  | update a _ f k ih | choose _ _ k ih => exact fun p s hn ⟨ha, h⟩ => ⟨ha, ih _ _ _ hn h⟩
  | call c h g l k ih => exact fun p s hn ⟨r, s', hr, hk⟩ => ⟨r, s', hr, ih _ _ _ (Nat.le_trans hn (runs_toks hr)) hk⟩
  | resume g r l k ih => exact fun p s hn ⟨res, s', hw, h⟩ => ⟨res, s', hw, ih _ _ _ (Nat.le_trans hn (wakes_toks hw)) h⟩
theorem wpAny_toks {α : Type} {M : Model} {A : Around} {t : Sem α} {Q : α → Shared → Prop} {E : Value → Shared → Prop} {s : Shared} {n : Nat} (hn : n ≤ s.toks) (h : wpAny M A t (fun a s' => n ≤ s'.toks → Q a s') (fun e s' => n ≤ s'.toks → E e s') s) : wpAny M A t Q E s := fun Γ p hΓ =>
  Sem.wp_mono M Γ t (fun _ _ _ k => k.1 k.2) (fun _ _ _ k => k.1 k.2) p s (wp_toks M Γ t n p s hn (h Γ p hΓ))
end Mine
namespace Mine
/-- abstract values -/
inductive V where
  | none
  | bool (b : Bool)
  | int (i : Int)
  | str (s : List Nat)
  | byt (b : Array UInt8)
  | obj (i : Nat)
  | glob (v : Value)
/-- abstract objects -/
inductive O where
  | list (xs : List V)
  | tuple (xs : List V)
  | inst (as : List (String × V))
  | dict (es : List (List Nat × V))
  | range (a b st : Int)
  | slice (a b st : V)
  | clos (cs : List (String × V))
  | ctab
structure St where
  loc : String → Option V
  sto : List O
inductive Res (α : Type) where
  | ok (a : α) (st : St)
  | exc (k : String) (st : St)
  | fail
abbrev PM (α : Type) := St → Res α
def PM.pure {α : Type} (a : α) : PM α := fun st => .ok a st
def PM.bind {α β : Type} (m : PM α) (f : α → PM β) : PM β := fun st => match m st with
  | .ok a st' => f a st'
  | .exc k st' => .exc k st'
  | .fail => .fail
def PM.fail {α : Type} : PM α := fun _ => .fail
theorem bind_ok {α β : Type} {m : PM α} {f : α → PM β} {st st' : St} {b : β} (h : PM.bind m f st = .ok b st') : ∃ a st₁, m st = .ok a st₁ ∧ f a st₁ = .ok b st' := by
  unfold PM.bind at h
  cases e : m st with
  | ok a st₁ => rw [e] at h; exact ⟨a, st₁, rfl, h⟩
  | exc k st₁ => rw [e] at h; cases h
  | fail => rw [e] at h; cases h
theorem pure_ok {α : Type} {a b : α} {st st' : St} (h : PM.pure a st = .ok b st') : b = a ∧ st' = st := by cases h; exact ⟨rfl, rfl⟩
abbrev Map := List (Addr × Addr)
abbrev Led := List (Addr × Obj)
/-- what a step must leave as it is: hidden objects, frozen ones -/
structure Hd where
  h : Led
  z : Led
def okS (l : List Nat) : Prop := ∀ c ∈ l, c < 1114112
inductive VR (ρ : Map) : V → Value → Prop
  | none : VR ρ .none .none
  | bool (b : Bool) : VR ρ (.bool b) (.bool b)
  | int (i : Int) (t : Tok) : VR ρ (.int i) (.int i t)
  | str (l : List Nat) (t : Tok) : okS l → VR ρ (.str l) (.str ⟨l.toArray⟩ t)
  | byt (b : Array UInt8) (t : Tok) : VR ρ (.byt b) (.bytes b t)
  | obj {i : Nat} {p : Addr × Addr} : ρ[i]? = some p → VR ρ (.obj i) (.ref p.1)
  | glob (v : Value) : VR ρ (.glob v) v
theorem get_mono {ρ ρ' : Map} (h : ρ <+: ρ') {i : Nat} {p : Addr × Addr} (e : ρ[i]? = some p) : ρ'[i]? = some p := by
  obtain ⟨t, rfl⟩ := h
  have hi : i < ρ.length := by
    rcases Nat.lt_or_ge i ρ.length with q | q
    · exact q
    · rw [List.getElem?_eq_none q] at e; cases e
  rw [List.getElem?_append_left hi]; exact e
theorem VR.mono {ρ ρ' : Map} (h : ρ <+: ρ') {v : V} {u : Value} (x : VR ρ v u) : VR ρ' v u := by
  cases x with
  | none => exact .none
  | bool b => exact .bool b
  | int i t => exact .int i t
  | str l t h => exact .str l t h
  | byt b t => exact .byt b t
  | obj e => exact .obj (get_mono h e)
  | glob _ => exact .glob _
abbrev VRs (ρ : Map) := Paired (VR ρ)
theorem Paired.imp {α β : Type} {F G : α → β → Prop} (h : ∀ a b, F a b → G a b) : ∀ {l₁ : List α} {l₂ : List β}, Paired F l₁ l₂ → Paired G l₁ l₂
  | _, _, .nil => .nil
  | _, _, .cons x t => .cons (h _ _ x) (Paired.imp h t)
theorem VRs.mono {ρ ρ' : Map} (h : ρ <+: ρ') {vs : List V} {us : List Value} (x : VRs ρ vs us) : VRs ρ' vs us := Paired.imp (fun _ _ => VR.mono h) x
/-- an attribute table and the entries of its dict -/
def AR (ρ : Map) (a : String × V) (e : DictEntry) : Prop := (∃ t, e.key = .str (Str.ofString a.1) t) ∧ VR ρ a.2 e.val
/-- a dict by texts -/
def DR (ρ : Map) (a : List Nat × V) (e : Str × Value) : Prop := e.1 = ⟨a.1.toArray⟩ ∧ VR ρ a.2 e.2
abbrev tupleObj (its : List Value) (n : Nat) : Obj := { cls := .type "tuple", data := .seq its.toArray n }
abbrev listObj (its : List Value) (n : Nat) : Obj := { cls := .type "list", data := .seq its.toArray n }
structure Cx where
  prog : Program
  w : World
  K : Frag
  C : Addr
  p : Program
  loose : List Str
  mg : Str → Option Value
  mb : Str → Option Value
  h₀ : Heap
  L : Addr
  A : Around
  fenv : Env
  env : Env
  base : Heap
  outer : List Env
  os : OsState
  n : Nat
  fm : Str → Option Value
  fzn : Bool
  lam : FuncBody × Arguments × Scope × Str
  tab : Addr × Array Value × Pos
abbrev Cx.M (cx : Cx) : Model := model cx.prog cx.w
/-- a function made in a call: its body, its parameters, its scope, its qualified name; what its cells hold -/
def Lam (ρ : Map) (fz : Led) (f : FuncBody × Arguments × Scope × Str) (cs : List (String × V)) (fd : FuncData) : Prop :=
  fd.body = f.1 ∧ fd.params = f.2.1 ∧ fd.scope = f.2.2.1 ∧ fd.qualname = f.2.2.2 ∧ fd.globals = mainGlobals ∧ fd.builtins = builtinsNs ∧ fd.defaults = .none ∧ fd.kwdefaults = .none ∧
  (∃ c o, fd.code = .ref c ∧ (c, o) ∈ fz ∧ (∃ t vs, o.data = .fields vs ∧ vs[1]? = some (.str fd.qualname t))) ∧
  (∀ n v, cs.lookup n = some v → f.2.2.1.names.lookup (Str.ofString n) = some .free) ∧
  (∀ n v, cs.lookup n = some v → ∃ c o V, fd.closure.lookup (Str.ofString n) = some c ∧ (c, o) ∈ fz ∧ o.data = .cell (some V) ∧ VR ρ v V) ∧
  (∀ x c, fd.closure.lookup x = some c → ∃ o V, (c, o) ∈ fz ∧ o.data = .cell V) ∧ (∀ x y c, fd.closure.lookup x = some c → fd.closure.lookup y = some c → x = y)
def OAt (cx : Cx) (ρ : Map) (fz led : Led) (p : Addr × Addr) : O → Prop
  | .list xs => ∃ Xs n, VRs ρ xs Xs ∧ (p.1, listObj Xs n) ∈ led
  | .tuple xs => ∃ Xs n, VRs ρ xs Xs ∧ (p.1, tupleObj Xs n) ∈ led
  | .inst as => ∃ Es n, Paired (AR ρ) as Es ∧ Es.length ≤ 100 ∧ (p.1, instObj cx.C p.2) ∈ led ∧ (p.2, dictOf Es n) ∈ led
  | .dict es => ∃ o kvs, Paired (DR ρ) es kvs ∧ o.IsDictOf (PySem.strKind cx.prog cx.w) kvs ∧ p.1 ≠ sysModules ∧ (p.1, o) ∈ led
  | .range a b st => ∃ A B S, VR ρ (.int a) A ∧ VR ρ (.int b) B ∧ VR ρ (.int st) S ∧ (p.1, ({ cls := .type "range", data := .fields #[A, B, S] } : Obj)) ∈ led
  | .slice a b st => ∃ A B S, VR ρ a A ∧ VR ρ b B ∧ VR ρ st S ∧ (p.1, ({ cls := .type "slice", data := .fields #[A, B, S] } : Obj)) ∈ led
  | .clos cs => ∃ fd, (p.1, ({ cls := .type "function", data := .func fd } : Obj)) ∈ led ∧ Lam ρ fz cx.lam cs fd
  | .ctab => p.1 = cx.tab.1 ∧ ∃ ps more, ps = cx.tab.2.1 ++ more ∧ TriplesOk ps.toList ∧ (p.1, ({ cls := .none, data := .fields ps } : Obj)) ∈ led ∧
      (codeAmong cx.tab.2.2 ps.toList = none ∨ ∃ c o, codeAmong cx.tab.2.2 ps.toList = some (.ref c) ∧ (c, o) ∈ fz ∧ (∃ t vs, o.data = .fields vs ∧ vs[1]? = some (.str cx.lam.2.2.2 t)))
/-- where the built-in names' module lies -/
def BM (mg : Str → Option Value) (h : Heap) : Prop := ∃ bm ob, mg "__builtins__" = some (.ref bm) ∧ bm ≠ builtinsNs ∧ h.get? bm = some ob ∧ ob.cls = .type "module" ∧ ob.dict = some builtinsNs ∧ ob.data = .plain
theorem BM.keeps {mg : Str → Option Value} {h h' : Heap} (x : BM mg h) (k : ∀ b o, h.get? b = some o → h'.get? b = some o) : BM mg h' := by
  obtain ⟨bm, ob, a1, a2, a3, a4⟩ := x
  exact ⟨bm, ob, a1, a2, k _ _ a3, a4⟩
structure Cx.Ok (cx : Cx) : Prop where
  bmain : BM cx.mg cx.h₀
  kin : cx.K.In cx.h₀
  top : TopRead cx.p cx.loose cx.mg cx.mb cx.h₀
  below : ∃ A₀, Below A₀ cx.base cx.outer cx.h₀
  frames : cx.A.frames = some (cx.fenv :: cx.outer)
  fframe : cx.fenv.frame = some cx.L
  fkind : cx.fenv.scope.kind = .function
  kind : cx.env.scope.kind = .function
  globals : cx.env.globals = mainGlobals
  builtins : cx.env.builtins = builtinsNs
  handled : cx.A.handled = none
  depth : cx.A.depth + 4 * cx.n + 4 < recursionLimit
  units : cx.A.units + 40 * cx.n + 200 < cLine
  cinj : ∀ x y c, cx.env.cells.lookup x = some c → cx.env.cells.lookup y = some c → x = y
def BoundTo (env : Env) (mloc : Str → Option Value) (led : Led) (x : Str) (V : Value) : Prop :=
  (env.kindOf x = some .local ∧ mloc x = some V) ∨
  ((env.kindOf x = some .cell ∨ env.kindOf x = some .free) ∧ ∃ c o, env.cells.lookup x = some c ∧ (c, o) ∈ led ∧ o.data = .cell (some V))
/-- where the current block's own names lie: in the function's frame, or in the dict of a comprehension -/
def LocNs (cx : Cx) (ρ : Map) (hid : Hd) (fz led : Led) (m mloc : Str → Option Value) : Prop :=
  (cx.env.locals = cx.L ∧ mloc = m) ∨
  (cx.env.locals ≠ cx.L ∧ ∃ o es ep, (cx.env.locals, o) ∈ led ∧ o.data = .dict es ep ∧ StrKeys es ∧ (∀ name, nsFind es name = mloc name) ∧
    (∀ p ∈ ρ, p.1 ≠ cx.env.locals ∧ p.2 ≠ cx.env.locals) ∧ (∀ q ∈ hid.h, q.1 ≠ cx.env.locals) ∧ (∀ q ∈ fz, q.1 ≠ cx.env.locals) ∧ (∀ x, cx.env.cells.lookup x ≠ some cx.env.locals))
structure Bear (cx : Cx) (ρ : Map) (hid : Hd) (fz led : Led) (m mloc : Str → Option Value) (st : St) : Prop where
  nd : (led.map (·.1)).Nodup
  cm : cx.env.locals ≠ cx.L → m = cx.fm
  ln : LocNs cx ρ hid fz led m mloc
  len : ρ.length = st.sto.length
  own : ∀ p ∈ ρ, p.1 ∈ led.map (·.1) ∧ p.2 ∈ led.map (·.1)
  obj : ∀ (i : Nat) (o : O) (p : Addr × Addr), st.sto[i]? = some o → ρ[i]? = some p → OAt cx ρ fz led p o
  sep : ∀ (i j : Nat) (p q : Addr × Addr), ρ[i]? = some p → ρ[j]? = some q → i ≠ j → p.1 ≠ q.1 ∧ p.1 ≠ q.2 ∧ p.2 ≠ q.1 ∧ p.2 ≠ q.2
  hin : ∀ q ∈ hid.h, q ∈ led
  hsep : ∀ q ∈ hid.h, ∀ p ∈ ρ, q.1 ≠ p.1 ∧ q.1 ≠ p.2
  cel : ∀ x c, cx.env.cells.lookup x = some c → ∃ o v, (c, o) ∈ led ∧ o.data = .cell v
  csep : ∀ x c, cx.env.cells.lookup x = some c → (∀ q ∈ hid.h, q.1 ≠ c) ∧ (∀ p ∈ ρ, p.1 ≠ c ∧ p.2 ≠ c)
  fin : ∀ q ∈ fz, q ∈ led
  fz0 : ∀ q ∈ hid.z, q ∈ fz
  hfz : ∀ q ∈ hid.h, ∀ r ∈ fz, r.1 ≠ q.1
  fsep : ∀ q ∈ fz, ∀ p ∈ ρ, q.1 ≠ p.1 ∧ q.1 ≠ p.2
  fcel : cx.fzn = false → ∀ q ∈ fz, ∀ x, cx.env.kindOf x = some .cell → cx.env.cells.lookup x ≠ some q.1
  loc : ∀ n v, st.loc n = some v → ∃ V, VR ρ v V ∧ BoundTo cx.env mloc led (Str.ofString n) V
structure RelD (cx : Cx) (ρ : Map) (hid : Hd) (fz led : Led) (m mloc : Str → Option Value) (st : St) (s : Shared) : Prop where
  F : Fr cx.h₀ cx.L s.heap m
  N : News cx.h₀ cx.L s.heap led
  B : Bear cx ρ hid fz led m mloc st
  gens : s.gens = #[]
  os : s.os = cx.os
  tk : 0 < s.toks
def Rel (cx : Cx) (ρ : Map) (hid : Hd) (st : St) (s : Shared) : Prop := ∃ fz led m mloc, RelD cx ρ hid fz led m mloc st s
theorem Rel.pos {cx : Cx} {ρ : Map} {hid : Hd} {st : St} {s : Shared} (x : Rel cx ρ hid st s) : 0 < s.toks := by
  obtain ⟨_, _, _, _, x⟩ := x
  exact x.tk
/-- tokens never shrink -/
theorem lf {α : Type} {M : Model} {A : Around} {t : Sem α} {Q : α → Shared → Prop} {E : Value → Shared → Prop} {s : Shared} (x : 0 < s.toks) (h : wpAny M A t (fun a s' => 0 < s'.toks → Q a s') E s) : wpAny M A t Q E s :=
  wpAny_toks x (wpAny_mono h (fun _ _ k => k) fun _ _ k _ => k)
def Sim {α β : Type} (cx : Cx) (t : Sem α) (m : PM β) (R : Map → β → α → Prop) : Prop :=
  ∀ ρ hid st s, Rel cx ρ hid st s → ∀ b st', m st = .ok b st' →
    wpAny cx.M cx.A t (fun a s' => ∃ ρ', ρ <+: ρ' ∧ Rel cx ρ' hid st' s' ∧ R ρ' b a) (fun _ _ => False) s
abbrev SimV (cx : Cx) (t : Sem Value) (m : PM V) : Prop := Sim cx t m VR
end Mine
namespace Mine
theorem AR.mono {ρ ρ' : Map} (h : ρ <+: ρ') {a : String × V} {e : DictEntry} (x : AR ρ a e) : AR ρ' a e := ⟨x.1, x.2.mono h⟩
theorem DR.mono {ρ ρ' : Map} (h : ρ <+: ρ') {a : List Nat × V} {e : Str × Value} (x : DR ρ a e) : DR ρ' a e := ⟨x.1, x.2.mono h⟩
theorem Lam.mono {ρ ρ' : Map} {fz fz' : Led} {f : FuncBody × Arguments × Scope × Str} {cs : List (String × V)} {fd : FuncData} (h : ρ <+: ρ') (hf : ∀ q ∈ fz, q ∈ fz') (x : Lam ρ fz f cs fd) : Lam ρ' fz' f cs fd := by
  obtain ⟨a1, a2, a3, a4, a5, a6, a7, a8, ⟨c, o, b1, b2, b3⟩, kf, k, kk, ki⟩ := x
  refine ⟨a1, a2, a3, a4, a5, a6, a7, a8, ⟨c, o, b1, hf _ b2, b3⟩, kf, fun n v e => ?_, fun x c e => ?_, ki⟩
  · obtain ⟨c, o, V, k1, k2, k3, k4⟩ := k n v e
    exact ⟨c, o, V, k1, hf _ k2, k3, k4.mono h⟩
  · obtain ⟨o, V, k1, k2⟩ := kk x c e
    exact ⟨o, V, hf _ k1, k2⟩
theorem OAt.mono {cx : Cx} {ρ ρ' : Map} {fz fz' led led' : Led} {p : Addr × Addr} {o : O} (h : ρ <+: ρ') (hf : ∀ q ∈ fz, q ∈ fz')
    (hl : ∀ b ob, (b, ob) ∈ led → b = p.1 ∨ b = p.2 → (b, ob) ∈ led') (x : OAt cx ρ fz led p o) : OAt cx ρ' fz' led' p o := by
  cases o with
  | list xs => obtain ⟨Xs, n, a, b⟩ := x; exact ⟨Xs, n, a.mono h, hl _ _ b (.inl rfl)⟩
  | tuple xs => obtain ⟨Xs, n, a, b⟩ := x; exact ⟨Xs, n, a.mono h, hl _ _ b (.inl rfl)⟩
  | inst as => obtain ⟨Es, n, a, c, b, d⟩ := x; exact ⟨Es, n, Paired.imp (fun _ _ => AR.mono h) a, c, hl _ _ b (.inl rfl), hl _ _ d (.inr rfl)⟩
  | dict es => obtain ⟨o, kvs, a, d, c, b⟩ := x; exact ⟨o, kvs, Paired.imp (fun _ _ => DR.mono h) a, d, c, hl _ _ b (.inl rfl)⟩
  | range a b c => obtain ⟨A, B, S, x1, x2, x3, x4⟩ := x; exact ⟨A, B, S, x1.mono h, x2.mono h, x3.mono h, hl _ _ x4 (.inl rfl)⟩
  | slice a b c => obtain ⟨A, B, S, x1, x2, x3, x4⟩ := x; exact ⟨A, B, S, x1.mono h, x2.mono h, x3.mono h, hl _ _ x4 (.inl rfl)⟩
  | clos cs => obtain ⟨fd, x1, x2⟩ := x; exact ⟨fd, hl _ _ x1 (.inl rfl), x2.mono h hf⟩
  | ctab =>
    obtain ⟨x0, ps, more, x1, x2, x3, x4⟩ := x
    refine ⟨x0, ps, more, x1, x2, hl _ _ x3 (.inl rfl), ?_⟩
    rcases x4 with x4 | ⟨c, o, y1, y2, y3⟩
    · exact .inl x4
    · exact .inr ⟨c, o, y1, hf _ y2, y3⟩
theorem BoundTo.mono {env : Env} {mloc : Str → Option Value} {led led' : Led} {x : Str} {V : Value} (hl : ∀ c o, env.cells.lookup x = some c → (c, o) ∈ led → (c, o) ∈ led') (h : BoundTo env mloc led x V) : BoundTo env mloc led' x V := by
  rcases h with h | ⟨hk, c, o, h1, h2, h3⟩
  · exact .inl h
  · exact .inr ⟨hk, c, o, h1, hl c o h1 h2, h3⟩
theorem mem_of_get {ρ : Map} {i : Nat} {p : Addr × Addr} (h : ρ[i]? = some p) : p ∈ ρ := List.mem_of_getElem? h
/-- one object's place in the ledger bears another object -/
def updL (d : Addr) (ob : Obj) (led : Led) : Led := led.map fun q => if q.1 = d then (d, ob) else q
theorem updL_fst (d : Addr) (ob : Obj) (led : Led) : (updL d ob led).map (·.1) = led.map (·.1) := by
  unfold updL
  rw [List.map_map]
  refine List.map_congr_left fun q _ => ?_
  show (if q.1 = d then (d, ob) else q).1 = q.1
  split
  · rename_i h; exact h.symm
  · rfl
theorem mem_updL_ne {d b : Addr} {ob o : Obj} {led : Led} (h : (b, o) ∈ led) (hne : b ≠ d) : (b, o) ∈ updL d ob led := by
  refine List.mem_map.mpr ⟨(b, o), h, ?_⟩
  show (if b = d then (d, ob) else (b, o)) = (b, o)
  rw [if_neg hne]
theorem mem_updL_self {d : Addr} {ob o : Obj} {led : Led} (h : (d, o) ∈ led) : (d, ob) ∈ updL d ob led := by
  refine List.mem_map.mpr ⟨(d, o), h, ?_⟩
  show (if d = d then (d, ob) else (d, o)) = (d, ob)
  rw [if_pos rfl]
theorem upd_of {d : Addr} {o : Obj} (ob : Obj) : ∀ {led : Led}, (d, o) ∈ led → (led.map (·.1)).Nodup → Upd d o ob led (updL d ob led)
  | q :: r, hm, hn => by
    rw [List.map_cons, List.nodup_cons] at hn
    by_cases hq : q.1 = d
    · have hr : ∀ p ∈ r, p.1 ≠ d := fun p hp e => hn.1 (by rw [hq, ← e]; exact List.mem_map_of_mem hp)
      have hqe : q = (d, o) := by
        rcases List.mem_cons.mp hm with e | e
        · exact e.symm
        · exact absurd rfl (hr _ e)
      subst hqe
      have e : updL d ob ((d, o) :: r) = (d, ob) :: r := by
        unfold updL
        rw [List.map_cons]
        have : r.map (fun q => if q.1 = d then (d, ob) else q) = r := by
          conv => rhs; rw [← List.map_id r]
          exact List.map_congr_left fun p hp => by rw [if_neg (hr p hp)]; rfl
        rw [this]; simp
      rw [e]
      exact .head hr
    · have hm' : (d, o) ∈ r := by
        rcases List.mem_cons.mp hm with e | e
        · exact absurd (by rw [← e]) hq
        · exact e
      have e : updL d ob (q :: r) = q :: updL d ob r := by unfold updL; rw [List.map_cons, if_neg hq]
      rw [e]
      exact .tail hq (upd_of ob hm' hn.2)
theorem nodup_mem {led : Led} (hn : (led.map (·.1)).Nodup) {b : Addr} {o o' : Obj} (h : (b, o) ∈ led) (h' : (b, o') ∈ led) : o = o' := by
  induction led with
  | nil => cases h
  | cons q r ih =>
    rw [List.map_cons, List.nodup_cons] at hn
    rcases List.mem_cons.mp h with e | e <;> rcases List.mem_cons.mp h' with e' | e'
    · exact (Prod.mk.inj (e.trans e'.symm)).2
    · exact absurd (List.mem_map_of_mem (f := (·.1)) e') (by rw [← e] at hn; exact hn.1)
    · exact absurd (List.mem_map_of_mem (f := (·.1)) e) (by rw [← e'] at hn; exact hn.1)
    · exact ih hn.2 e e'
section
variable {cx : Cx} {ρ : Map} {hid : Hd} {fz led : Led} {m mloc : Str → Option Value} {st : St}
/-- an object of the store changes -/
theorem Bear.upd (B : Bear cx ρ hid fz led m mloc st) {i : Nat} {p : Addr × Addr} {d : Addr} {ob : Obj} {o : O} (hp : ρ[i]? = some p) (hd : d = p.1 ∨ d = p.2)
    (ho : OAt cx ρ fz (updL d ob led) p o) : Bear cx ρ hid fz (updL d ob led) m mloc { st with sto := st.sto.set i o } := by
  have hpm := mem_of_get hp
  refine ⟨by rw [updL_fst]; exact B.nd, B.cm, ?_, by rw [List.length_set]; exact B.len, fun q hq => by rw [updL_fst]; exact B.own q hq, fun j o' q hj hq => ?_, B.sep, fun q hq => ?_, B.hsep, fun x c hc => ?_, B.csep, fun q hq => ?_, B.fz0, B.hfz, B.fsep, B.fcel, fun n v hv => ?_⟩
  · rcases B.ln with h | ⟨h1, o', es, ep, h2, h3, h4, h5, h6, h7, h8, h9⟩
    · exact .inl h
    · refine .inr ⟨h1, o', es, ep, mem_updL_ne h2 fun e => ?_, h3, h4, h5, h6, h7, h8, h9⟩
      rcases hd with hd | hd
      · exact (h6 p hpm).1 (hd.symm.trans e.symm)
      · exact (h6 p hpm).2 (hd.symm.trans e.symm)
  · by_cases hij : j = i
    · subst hij
      have : q = p := Option.some.inj (hq.symm.trans hp)
      subst this
      have hlt : j < st.sto.length := by
        rcases Nat.lt_or_ge j st.sto.length with z | z
        · exact z
        · rw [← B.len] at z; rw [List.getElem?_eq_none z] at hp; cases hp
      rw [List.getElem?_set_self hlt] at hj
      cases hj
      exact ho
    · rw [List.getElem?_set_ne (Ne.symm hij)] at hj
      refine (B.obj j o' q hj hq).mono (List.prefix_refl _) (fun _ h => h) fun b ob' hb hbq => mem_updL_ne hb fun e => ?_
      have s := B.sep j i q p hq hp hij
      rcases hbq with rfl | rfl <;> rcases hd with rfl | rfl
      · exact s.1 e
      · exact s.2.1 e
      · exact s.2.2.1 e
      · exact s.2.2.2 e
  · refine mem_updL_ne (B.hin q hq) fun e => ?_
    have := B.hsep q hq p hpm
    rcases hd with rfl | rfl
    · exact this.1 e
    · exact this.2 e
  · obtain ⟨o', v, h1, h2⟩ := B.cel x c hc
    refine ⟨o', v, mem_updL_ne h1 fun e => ?_, h2⟩
    have := (B.csep x c hc).2 p hpm
    rcases hd with rfl | rfl
    · exact this.1 e.symm
    · exact this.2 e.symm
  · refine mem_updL_ne (B.fin q hq) fun e => ?_
    have := B.fsep q hq p hpm
    rcases hd with rfl | rfl
    · exact this.1 e
    · exact this.2 e
  · obtain ⟨V, h1, h2⟩ := B.loc n v hv
    refine ⟨V, h1, h2.mono fun c o' hc hm => mem_updL_ne hm fun e => ?_⟩
    have := (B.csep _ c hc).2 p hpm
    rcases hd with rfl | rfl
    · exact this.1 e.symm
    · exact this.2 e.symm
/-- the ledger grows by something that is not told -/
theorem Bear.more (B : Bear cx ρ hid fz led m mloc st) {a : Addr} {ob : Obj} (ha : ∀ q ∈ led, q.1 ≠ a) : Bear cx ρ hid fz ((a, ob) :: led) m mloc st := by
  refine ⟨?_, B.cm, ?_, B.len, fun q hq => ⟨.tail _ (B.own q hq).1, .tail _ (B.own q hq).2⟩, fun i o p h1 h2 => (B.obj i o p h1 h2).mono (List.prefix_refl _) (fun _ h => h) fun _ _ h _ => .tail _ h, B.sep, fun q hq => .tail _ (B.hin q hq), B.hsep, fun x c hc => ?_, B.csep, fun q hq => .tail _ (B.fin q hq), B.fz0, B.hfz, B.fsep, B.fcel, fun n v hv => ?_⟩
  · rw [List.map_cons, List.nodup_cons]
    refine ⟨fun h => ?_, B.nd⟩
    obtain ⟨q, hq, e⟩ := List.mem_map.mp h
    exact ha q hq e
  · rcases B.ln with h | ⟨h1, o', es, ep, h2, r⟩
    · exact .inl h
    · exact .inr ⟨h1, o', es, ep, .tail _ h2, r⟩
  · obtain ⟨o', v, h1, h2⟩ := B.cel x c hc
    exact ⟨o', v, .tail _ h1, h2⟩
  · obtain ⟨V, h1, h2⟩ := B.loc n v hv
    exact ⟨V, h1, h2.mono fun c o' hc hm => .tail _ hm⟩
/-- something of the ledger enters the store -/
theorem Bear.enter (B : Bear cx ρ hid fz led m mloc st) {p : Addr × Addr} {o : O} (h1 : p.1 ∈ led.map (·.1)) (h2 : p.2 ∈ led.map (·.1)) (hs : ∀ q ∈ ρ, p.1 ≠ q.1 ∧ p.1 ≠ q.2 ∧ p.2 ≠ q.1 ∧ p.2 ≠ q.2)
    (hh : ∀ q ∈ hid.h, q.1 ≠ p.1 ∧ q.1 ≠ p.2) (hf : ∀ q ∈ fz, q.1 ≠ p.1 ∧ q.1 ≠ p.2) (hc : ∀ x c, cx.env.cells.lookup x = some c → p.1 ≠ c ∧ p.2 ≠ c) (hl : cx.env.locals ≠ cx.L → p.1 ≠ cx.env.locals ∧ p.2 ≠ cx.env.locals)
    (ho : OAt cx (ρ ++ [p]) fz led p o) : Bear cx (ρ ++ [p]) hid fz led m mloc { st with sto := st.sto ++ [o] } := by
  have hpre : ρ <+: ρ ++ [p] := List.prefix_append _ _
  have hmem : ∀ q, q ∈ ρ ++ [p] → q ∈ ρ ∨ q = p := fun q hq => by
    rcases List.mem_append.mp hq with h | h
    · exact .inl h
    · exact .inr (List.mem_singleton.mp h)
  have hget : ∀ {i : Nat} {q : Addr × Addr}, (ρ ++ [p])[i]? = some q → (i < ρ.length ∧ ρ[i]? = some q) ∨ (i = ρ.length ∧ q = p) := fun {i q} e => by
    rcases Nat.lt_trichotomy i ρ.length with z | z | z
    · rw [List.getElem?_append_left z] at e; exact .inl ⟨z, e⟩
    · subst z; rw [List.getElem?_append_right (Nat.le_refl _), Nat.sub_self] at e; cases e; exact .inr ⟨rfl, rfl⟩
    · rw [List.getElem?_eq_none (by rw [List.length_append]; exact z)] at e; cases e
  refine ⟨B.nd, B.cm, ?_, by rw [List.length_append, List.length_append, B.len]; rfl, fun q hq => ?_, fun i o' q hi hq => ?_, fun i j q r hq hr hij => ?_, B.hin, fun q hq r hr => ?_, B.cel, fun x c hx => ⟨(B.csep x c hx).1, fun q hq => ?_⟩, B.fin, B.fz0, B.hfz, fun q hq r hr => ?_, B.fcel, fun n v hv => ?_⟩
  · rcases B.ln with h | ⟨g1, o', es, ep, g2, g3, g4, g5, g6, g7⟩
    · exact .inl h
    · refine .inr ⟨g1, o', es, ep, g2, g3, g4, g5, fun q hq => ?_, g7⟩
      rcases hmem q hq with h | rfl
      · exact g6 q h
      · exact hl g1
  · rcases hmem q hq with h | rfl
    · exact B.own q h
    · exact ⟨h1, h2⟩
  · rcases hget hq with ⟨z, e⟩ | ⟨z, rfl⟩
    · rw [List.getElem?_append_left (by rw [← B.len]; exact z)] at hi
      exact (B.obj i o' q hi e).mono hpre (fun _ h => h) fun _ _ h _ => h
    · rw [z, B.len, List.getElem?_append_right (Nat.le_refl _), Nat.sub_self] at hi
      cases hi
      exact ho
  · rcases hget hq with ⟨z, e⟩ | ⟨z, rfl⟩ <;> rcases hget hr with ⟨z', e'⟩ | ⟨z', rfl⟩
    · exact B.sep i j q r e e' hij
    · have := hs q (mem_of_get e); exact ⟨Ne.symm this.1, Ne.symm this.2.2.1, Ne.symm this.2.1, Ne.symm this.2.2.2⟩
    · exact hs r (mem_of_get e')
    · exact absurd (z.trans z'.symm) hij
  · rcases hmem r hr with h | rfl
    · exact B.hsep q hq r h
    · exact hh q hq
  · rcases hmem q hq with h | rfl
    · exact (B.csep x c hx).2 q h
    · exact hc x c hx
  · rcases hmem r hr with h | rfl
    · exact B.fsep q hq r h
    · exact hf q hq
  · obtain ⟨V, a, b⟩ := B.loc n v hv
    exact ⟨V, a.mono hpre, b⟩
/-- a new object of one address -/
theorem Bear.alloc (B : Bear cx ρ hid fz led m mloc st) {a : Addr} {ob : Obj} {o : O} (ha : ∀ q ∈ led, q.1 ≠ a)
    (ho : OAt cx (ρ ++ [(a, a)]) fz ((a, ob) :: led) (a, a) o) : Bear cx (ρ ++ [(a, a)]) hid fz ((a, ob) :: led) m mloc { st with sto := st.sto ++ [o] } := by
  have hin : ∀ b, b ∈ led.map (·.1) → b ≠ a := fun b hb => by
    obtain ⟨q, hq, rfl⟩ := List.mem_map.mp hb
    exact ha q hq
  refine (B.more ha).enter (.head _) (.head _) (fun q hq => ?_) (fun q hq => ?_) (fun q hq => ?_) (fun x c hc => ?_) (fun hl => ?_) ho
  · have := B.own q hq
    exact ⟨Ne.symm (hin _ this.1), Ne.symm (hin _ this.2), Ne.symm (hin _ this.1), Ne.symm (hin _ this.2)⟩
  · exact ⟨ha q (B.hin q hq), ha q (B.hin q hq)⟩
  · exact ⟨ha q (B.fin q hq), ha q (B.fin q hq)⟩
  · obtain ⟨o', v, h1, _⟩ := B.cel x c hc
    exact ⟨Ne.symm (ha _ h1), Ne.symm (ha _ h1)⟩
  · rcases B.ln with h | ⟨_, o', es, ep, h2, _⟩
    · exact absurd h.1 hl
    · exact ⟨Ne.symm (ha _ h2), Ne.symm (ha _ h2)⟩
end
end Mine
namespace Mine
theorem char_inj {a b : Char} (h : a.toNat = b.toNat) : a = b := by
  apply Char.ext
  apply UInt32.toNat_inj.mp
  exact h
theorem ofString_inj {a b : String} (h : Str.ofString a = Str.ofString b) : a = b := by
  rw [Str.ofString_eq_toList, Str.ofString_eq_toList] at h
  have h1 : (a.toList.map Char.toNat) = (b.toList.map Char.toNat) := by
    have := congrArg Str.cps h
    simpa using this
  have h2 : a.toList = b.toList := by
    have : ∀ (l l' : List Char), l.map Char.toNat = l'.map Char.toNat → l = l' := by
      intro l
      induction l with
      | nil => intro l' e; cases l' with | nil => rfl | cons x r => simp at e
      | cons x r ih => intro l' e; cases l' with
        | nil => simp at e
        | cons y r' =>
          simp only [List.map_cons, List.cons.injEq] at e
          rw [char_inj e.1, ih r' e.2]
    exact this _ _ h1
  exact String.toList_inj.mp h2
/-- going on behind a step -/
theorem wp_seq {α β : Type} {cx : Cx} {A : Around} {t : Sem α} {ρ : Map} {hid : Hd} {st' : St} {b : β} {R : Map → β → α → Prop} {s : Shared} {Q : α → Shared → Prop} {E : Value → Shared → Prop}
    (h : wpAny cx.M A t (fun a s' => ∃ ρ', ρ <+: ρ' ∧ Rel cx ρ' hid st' s' ∧ R ρ' b a) (fun _ _ => False) s)
    (k : ∀ a s' ρ', ρ <+: ρ' → Rel cx ρ' hid st' s' → R ρ' b a → Q a s') : wpAny cx.M A t Q E s :=
  wpAny_mono h (fun a s' x => let ⟨ρ', h1, h2, h3⟩ := x; k a s' ρ' h1 h2 h3) (fun _ _ f => f.elim)
theorem pre_refl (ρ : Map) : ρ <+: ρ := List.prefix_refl ρ
theorem pre_trans {a b c : Map} (x : a <+: b) (y : b <+: c) : a <+: c := List.IsPrefix.trans x y
section
variable {cx : Cx} {ρ : Map} {hid : Hd} {fz led : Led} {m mloc : Str → Option Value} {st : St} {s : Shared}
theorem RelD.nl (r : RelD cx ρ hid fz led m mloc st s) : s.heap.Ns cx.env.locals mloc := by
  rcases r.B.ln with ⟨h1, h2⟩ | ⟨_, o, es, ep, h2, h3, h4, h5, _⟩
  · rw [h1, h2]; exact r.F.ns
  · exact ⟨o, es, ep, (r.N _ h2).1, h3, h4, h5⟩
theorem RelD.rel (r : RelD cx ρ hid fz led m mloc st s) : Rel cx ρ hid st s := ⟨fz, led, m, mloc, r⟩
/-- only the heap and the tokens change -/
theorem RelD.go {h' : Heap} {tk : Nat} {ρ' : Map} {fz' led' : Led} {m' mloc' : Str → Option Value} {st' : St} (r : RelD cx ρ hid fz led m mloc st s)
    (F : Fr cx.h₀ cx.L h' m') (N : News cx.h₀ cx.L h' led') (B : Bear cx ρ' hid fz' led' m' mloc' st') (htk : 0 < tk := by first | assumption | exact Nat.succ_pos _ | exact Rel.pos (by assumption) | exact RelD.tk (by assumption)) : RelD cx ρ' hid fz' led' m' mloc' st' { s with heap := h', toks := tk } :=
  ⟨F, N, B, r.gens, r.os, htk⟩
theorem Rel.toks (r : Rel cx ρ hid st s) (tk : Nat) (htk : 0 < tk := by first | assumption | exact Nat.succ_pos _ | exact Rel.pos (by assumption) | exact RelD.tk (by assumption)) : Rel cx ρ hid st { s with toks := tk } := by
  obtain ⟨fz, led, m, mloc, r⟩ := r
  exact ⟨fz, led, m, mloc, r.F, r.N, r.B, r.gens, r.os, htk⟩
theorem News.updL {h₀ h h' : Heap} {L d : Addr} {led : Led} {o ob : Obj} (N : News h₀ L h led) (hm : (d, o) ∈ led) (hs : Heap.SameBut d h h') (ho : h'.get? d = some ob) : News h₀ L h' (updL d ob led) := fun q hq => by
  obtain ⟨p, hp, e⟩ := List.mem_map.mp hq
  by_cases hd : p.1 = d
  · rw [if_pos hd] at e
    subst e
    have := N _ hm
    exact ⟨ho, this.2.1, this.2.2⟩
  · rw [if_neg hd] at e
    subst e
    have := N _ hp
    exact ⟨(hs.2 _ hd).trans this.1, this.2⟩
theorem Fr.sameBut {h₀ h h' : Heap} {L d : Addr} {m : Str → Option Value} (F : Fr h₀ L h m) (hs : Heap.SameBut d h h') (hd : d ≠ L) (hn : h₀.get? d = none) : Fr h₀ L h' m :=
  ⟨F.ns.sameBut hs (Ne.symm hd), fun b o e => (hs.2 b (fun q => by rw [q, hn] at e; cases e)).trans (F.keep b o e), F.above⟩
theorem Bear.setF (B : Bear cx ρ hid fz led m mloc st) (hL : cx.env.locals = cx.L) {n : String} {v : V} {W : Value} (hk : cx.env.kindOf (Str.ofString n) = some .local) (hv : VR ρ v W) :
    Bear cx ρ hid fz led (fun y => if y = Str.ofString n then some W else m y) (fun y => if y = Str.ofString n then some W else m y) { st with loc := fun k => if k = n then some v else st.loc k } := by
  have hm : mloc = m := by
    rcases B.ln with h | h
    · exact h.2
    · exact absurd hL h.1
  refine ⟨B.nd, fun h => absurd hL h, .inl ⟨hL, rfl⟩, B.len, B.own, B.obj, B.sep, B.hin, B.hsep, B.cel, B.csep, B.fin, B.fz0, B.hfz, B.fsep, B.fcel, fun k w hw => ?_⟩
  by_cases hkn : k = n
  · subst hkn
    simp only [if_true] at hw
    cases hw
    exact ⟨W, hv, .inl ⟨hk, by simp⟩⟩
  · simp only [if_neg hkn] at hw
    obtain ⟨V', h1, h2⟩ := B.loc k w hw
    refine ⟨V', h1, ?_⟩
    rcases h2 with ⟨a, b⟩ | b
    · exact .inl ⟨a, (if_neg (fun e => hkn (ofString_inj e))).trans (by rw [← hm]; exact b)⟩
    · exact .inr b
theorem Bear.setC (B : Bear cx ρ hid fz led m mloc st) (hL : cx.env.locals ≠ cx.L) {n : String} {v : V} {W : Value} {o' : Obj} {es' : Array DictEntry} {ep' : Nat} (hk : cx.env.kindOf (Str.ofString n) = some .local) (hv : VR ρ v W)
    (hd : o'.data = .dict es' ep') (hs : StrKeys es') (hf : ∀ y, nsFind es' y = if y = Str.ofString n then some W else mloc y) :
    Bear cx ρ hid fz (Mine.updL cx.env.locals o' led) m (fun y => if y = Str.ofString n then some W else mloc y) { st with loc := fun k => if k = n then some v else st.loc k } := by
  rcases B.ln with h | ⟨_, o, es, ep, g2, g3, g4, g5, g6, g7, g8, g9⟩
  · exact absurd h.1 hL
  refine ⟨by rw [updL_fst]; exact B.nd, B.cm, .inr ⟨hL, o', es', ep', mem_updL_self g2, hd, hs, hf, g6, g7, g8, g9⟩, B.len, fun q hq => by rw [updL_fst]; exact B.own q hq, fun i ob p h1 h2 => ?_, B.sep, fun q hq => mem_updL_ne (B.hin q hq) (g7 q hq), B.hsep, fun x c hc => ?_, B.csep, fun q hq => mem_updL_ne (B.fin q hq) (g8 q hq), B.fz0, B.hfz, B.fsep, B.fcel, fun k w hw => ?_⟩
  · refine (B.obj i ob p h1 h2).mono (pre_refl _) (fun _ h => h) fun b ob' hb hbp => mem_updL_ne hb ?_
    have := g6 p (mem_of_get h2)
    rcases hbp with rfl | rfl
    · exact this.1
    · exact this.2
  · obtain ⟨ob, v', h1, h2⟩ := B.cel x c hc
    exact ⟨ob, v', mem_updL_ne h1 fun e => g9 x (e ▸ hc), h2⟩
  · by_cases hkn : k = n
    · subst hkn
      simp only [if_true] at hw
      cases hw
      exact ⟨W, hv, .inl ⟨hk, by simp⟩⟩
    · simp only [if_neg hkn] at hw
      obtain ⟨V', h1, h2⟩ := B.loc k w hw
      refine ⟨V', h1, ?_⟩
      rcases h2 with ⟨a, b⟩ | ⟨a, c, ob, b1, b2, b3⟩
      · exact .inl ⟨a, (if_neg (fun e => hkn (ofString_inj e))).trans b⟩
      · exact .inr ⟨a, c, ob, b1, mem_updL_ne b2 fun e => g9 _ (e ▸ b1), b3⟩
theorem Bear.setCell (B : Bear cx ρ hid fz led m mloc st) (hci : ∀ x y c, cx.env.cells.lookup x = some c → cx.env.cells.lookup y = some c → x = y) (hfzn : cx.fzn = false) {n : String} {v : V} {W : Value} {c : Addr} {o' : Obj}
    (hk : cx.env.kindOf (Str.ofString n) = some .cell) (hc : cx.env.cells.lookup (Str.ofString n) = some c) (hv : VR ρ v W) (hd : o'.data = .cell (some W)) :
    Bear cx ρ hid fz (Mine.updL c o' led) m mloc { st with loc := fun k => if k = n then some v else st.loc k } := by
  obtain ⟨oc, vc, hcm, hcd⟩ := B.cel _ _ hc
  have hcs := B.csep _ _ hc
  refine ⟨by rw [updL_fst]; exact B.nd, B.cm, ?_, B.len, fun q hq => by rw [updL_fst]; exact B.own q hq, fun i ob p h1 h2 => ?_, B.sep, fun q hq => mem_updL_ne (B.hin q hq) (hcs.1 q hq), B.hsep, fun x d hx => ?_, B.csep, fun q hq => mem_updL_ne (B.fin q hq) fun e => B.fcel hfzn q hq _ hk (e ▸ hc), B.fz0, B.hfz, B.fsep, B.fcel, fun k w hw => ?_⟩
  · rcases B.ln with h | ⟨g1, o, es, ep, g2, g3, g4, g5, g6, g7, g8, g9⟩
    · exact .inl h
    · exact .inr ⟨g1, o, es, ep, mem_updL_ne g2 fun e => g9 _ (e ▸ hc), g3, g4, g5, g6, g7, g8, g9⟩
  · refine (B.obj i ob p h1 h2).mono (pre_refl _) (fun _ h => h) fun b ob' hb hbp => mem_updL_ne hb ?_
    have := hcs.2 p (mem_of_get h2)
    rcases hbp with rfl | rfl
    · exact this.1
    · exact this.2
  · by_cases hdc : d = c
    · subst hdc
      exact ⟨o', some W, mem_updL_self hcm, hd⟩
    · obtain ⟨ob, v', h1, h2⟩ := B.cel x d hx
      exact ⟨ob, v', mem_updL_ne h1 hdc, h2⟩
  · by_cases hkn : k = n
    · subst hkn
      simp only [if_true] at hw
      cases hw
      exact ⟨W, hv, .inr ⟨.inl hk, c, o', hc, mem_updL_self hcm, hd⟩⟩
    · simp only [if_neg hkn] at hw
      obtain ⟨V', h1, h2⟩ := B.loc k w hw
      refine ⟨V', h1, ?_⟩
      rcases h2 with h2 | ⟨a, d, ob, b1, b2, b3⟩
      · exact .inl h2
      · exact .inr ⟨a, d, ob, b1, mem_updL_ne b2 (fun e => hkn (ofString_inj (hci _ _ d b1 (e ▸ hc)))), b3⟩
end
/-- locals -/
def getL (n : String) : PM V := fun st => match st.loc n with
  | some v => .ok v st
  | none => .fail
def setL (n : String) (v : V) : PM Unit := fun st => .ok () { st with loc := fun k => if k = n then some v else st.loc k }
theorem load_name {cx : Cx} (ok : cx.Ok) {n : String} {ρ : Map} {hid : Hd} {st : St} {s : Shared} (r : Rel cx ρ hid st s) {v : V} (hv : st.loc n = some v) (hcd : (Str.ofString n == ("__classdict__" : Str)) = false) {Q : Value → Shared → Prop} {E : Value → Shared → Prop} {A : Around}
    (h : ∀ W, VR ρ v W → Q W s) : wpAny cx.M A (loadName cx.env (Str.ofString n)) Q E s := by
  obtain ⟨fz, led, m, mloc, r⟩ := r
  obtain ⟨W, hw, hb⟩ := r.B.loc n v hv
  rcases hb with ⟨hk, hm⟩ | ⟨hk | hk, c, o, h1, h2, h3⟩
  · exact wpAny_loadName_local ok.kind hk r.nl hm (h W hw)
  · exact wpAny_loadName_cell ok.kind hk h1 ⟨o, (r.N _ h2).1, h3⟩ (h W hw)
  · exact wpAny_loadName_free ok.kind hk h1 ⟨o, (r.N _ h2).1, h3⟩ (h W hw) hcd
theorem sim_Name {cx : Cx} (ok : cx.Ok) {n : String} {pos : Pos} (hd : (Str.ofString n == ("__debug__" : Str)) = false) (hcd : (Str.ofString n == ("__classdict__" : Str)) = false) : SimV cx (eval (.Name (Str.ofString n) pos) cx.env) (getL n) := by
  intro ρ hid st s r v st' e
  unfold getL at e
  cases hv : st.loc n with
  | none => rw [hv] at e; cases e
  | some w =>
    rw [hv] at e
    cases e
    exact wpAny_Name (load_name ok r hv hcd fun W hw => ⟨ρ, pre_refl ρ, r, hw⟩) hd
/-- a name that may be bound: of the block's own, or a cell that no function made here keeps -/
abbrev Asg (cx : Cx) (n : String) : Prop := cx.env.kindOf (Str.ofString n) = some .local ∨ (cx.env.kindOf (Str.ofString n) = some .cell ∧ (cx.env.cells.lookup (Str.ofString n)).isSome = true ∧ cx.fzn = false)
theorem store_name {cx : Cx} (ok : cx.Ok) {n : String} {ρ : Map} {hid : Hd} {st : St} {s : Shared} {v : V} {W : Value} (r : Rel cx ρ hid st s) (hv : VR ρ v W)
    (hk : Asg cx n) {Q : Unit → Shared → Prop} {E : Value → Shared → Prop} {A : Around}
    (h : ∀ s', Rel cx ρ hid { st with loc := fun k => if k = n then some v else st.loc k } s' → Q () s') : wpAny cx.M A (storeName cx.env (Str.ofString n) W) Q E s := by
  obtain ⟨fz, led, m, mloc, r⟩ := r
  rcases hk with hk | ⟨hk, hc, hfzn⟩
  · by_cases hL : cx.env.locals = cx.L
    · refine wpAny_storeName_local hk r.nl (fun h' hn hs => h _ ?_) (by rw [ok.kind]; rfl)
      have hm : mloc = m := by
        rcases r.B.ln with z | z
        · exact z.2
        · exact absurd hL z.1
      subst hm
      refine RelD.rel (r.go ?_ (r.N.set (hL ▸ hs)) (r.B.setF hL hk hv))
      exact r.F.set (hL ▸ hn) (hL ▸ hs)
    · refine wpAny_storeName_local hk r.nl (fun h' hn hs => h _ ?_) (by rw [ok.kind]; rfl)
      obtain ⟨o', es', ep', q1, q2, q3, q4⟩ := hn
      rcases r.B.ln with z | ⟨_, o, es, ep, g2, _⟩
      · exact absurd z.1 hL
      have hg := r.N _ g2
      exact RelD.rel (r.go (Fr.sameBut r.F hs hL hg.2.2) (News.updL r.N g2 hs q1) (r.B.setC hL hk hv q2 q3 q4))
  · obtain ⟨c, hc⟩ := Option.isSome_iff_exists.mp hc
    obtain ⟨o, v₀, g1, g2⟩ := r.B.cel _ _ hc
    have hg := r.N _ g1
    refine wpAny_storeName_cell ok.kind hk hc ⟨o, hg.1, g2⟩ fun h' hcell hs => h _ ?_
    obtain ⟨o', q1, q2⟩ := hcell
    exact RelD.rel (r.go (tk := s.toks) (Fr.sameBut r.F hs hg.2.1 hg.2.2) (News.updL r.N g1 hs q1) (r.B.setCell ok.cinj hfzn hk hc hv q2))
/-- globals and built-ins -/
theorem sim_Global {cx : Cx} (ok : cx.Ok) {x : Str} {pos : Pos} {u : Value} (hx : cx.env.kindOf x = some .globalImplicit) (e : nsIn cx.K mainGlobals x = some (some u)) (hd : (x == ("__debug__" : Str)) = false) :
    SimV cx (eval (.Name x pos) cx.env) (PM.pure (.glob u)) := by
  intro ρ hid st s r v st' h
  cases h
  obtain ⟨fz, led, m, mloc, r'⟩ := id r
  refine Name_function_global ok.kind hx (loadGlobal_global (mg := cx.mg) (v := u) (by rw [ok.globals]; exact ok.top.g.keeps r'.F.keep) (mg_of ok.kin ok.top.g e) ⟨ρ, pre_refl ρ, r, .glob u⟩) hd
theorem sim_Builtin {cx : Cx} (ok : cx.Ok) {x : Str} {pos : Pos} {u : Value} (hx : cx.env.kindOf x = some .globalImplicit) (e : nsIn cx.K mainGlobals x = some none) (hb : bootBuiltins x = some u) (hn : x ≠ "__name__") (hd : (x == ("__debug__" : Str)) = false) :
    SimV cx (eval (.Name x pos) cx.env) (PM.pure (.glob u)) := by
  intro ρ hid st s r v st' h
  cases h
  obtain ⟨fz, led, m, mloc, r'⟩ := id r
  refine Name_function_global ok.kind hx (loadGlobal_builtin (mg := cx.mg) (mb := cx.mb) (v := u) (by rw [ok.globals]; exact ok.top.g.keeps r'.F.keep) (mg_none_of ok.kin ok.top.g e) (by rw [ok.builtins]; exact ok.top.b.keeps r'.F.keep) ((ok.top.builtins x hn).trans hb) ⟨ρ, pre_refl ρ, r, .glob u⟩) hd
/-- literals -/
theorem sim_int {cx : Cx} {i : Int} {k : Nat} {pos : Pos} : SimV cx (eval (.Constant (.int i) k pos) cx.env) (PM.pure (.int i)) := by
  intro ρ hid st s r v st' h; cases h
  exact fun _ _ _ => ⟨ρ, pre_refl ρ, r.toks _, .int i s.toks⟩
theorem sim_bool {cx : Cx} {b : Bool} {k : Nat} {pos : Pos} : SimV cx (eval (.Constant (.bool b) k pos) cx.env) (PM.pure (.bool b)) := by
  intro ρ hid st s r v st' h; cases h
  exact fun _ _ _ => ⟨ρ, pre_refl ρ, r, .bool b⟩
theorem sim_none {cx : Cx} {k : Nat} {pos : Pos} : SimV cx (eval (.Constant .none k pos) cx.env) (PM.pure .none) := by
  intro ρ hid st s r v st' h; cases h
  exact fun _ _ _ => ⟨ρ, pre_refl ρ, r, .none⟩
/-- the signs of a text -/
abbrev cps (x : String) : List Nat := (Str.ofString x).cps.toList
theorem str_cps (x : Str) : x = ⟨x.cps.toList.toArray⟩ := by cases x; simp
theorem cps_ok (x : String) : okS (cps x) := by
  intro c hc
  unfold cps at hc
  rw [Str.ofString_eq_toList] at hc
  simp only [List.mem_map] at hc
  obtain ⟨ch, _, rfl⟩ := hc
  have h := ch.valid
  simp only [UInt32.isValidChar, Nat.isValidChar] at h
  have e : ch.toNat = ch.val.toNat := rfl
  omega
theorem sim_str {cx : Cx} {x : String} {k : Nat} {pos : Pos} : SimV cx (eval (.Constant (.str (Str.ofString x)) k pos) cx.env) (PM.pure (.str (cps x))) := by
  intro ρ hid st s r v st' h; cases h
  refine fun _ _ _ => ⟨ρ, pre_refl ρ, r.toks _, ?_⟩
  have := VR.str (ρ := ρ) (cps x) s.toks (cps_ok x)
  rwa [← str_cps] at this
end Mine
namespace Mine
inductive Fl where
  | next | brk | cont
  | ret (v : V)
inductive FR (ρ : Map) : Fl → Flow → Prop
  | next : FR ρ .next .next
  | brk : FR ρ .brk .brk
  | cont : FR ρ .cont .cont
  | ret {v : V} {W : Value} : VR ρ v W → FR ρ (.ret v) (.ret W)
def BR (_ : Map) (a b : Bool) : Prop := a = b
def UR (_ : Map) (_ _ : Unit) : Prop := True
/-- a primitive of one, of two arguments, of a list of them -/
def P1 {α β : Type} (cx : Cx) (t : Value → Sem α) (f : V → PM β) (R : Map → β → α → Prop) : Prop :=
  ∀ ρ hid st s, Rel cx ρ hid st s → ∀ a A, VR ρ a A → ∀ v st', f a st = .ok v st' →
    wpAny cx.M cx.A (t A) (fun V s' => ∃ ρ', ρ <+: ρ' ∧ Rel cx ρ' hid st' s' ∧ R ρ' v V) (fun _ _ => False) s
def P2 {α β : Type} (cx : Cx) (t : Value → Value → Sem α) (f : V → V → PM β) (R : Map → β → α → Prop) : Prop :=
  ∀ ρ hid st s, Rel cx ρ hid st s → ∀ a A b B, VR ρ a A → VR ρ b B → ∀ v st', f a b st = .ok v st' →
    wpAny cx.M cx.A (t A B) (fun V s' => ∃ ρ', ρ <+: ρ' ∧ Rel cx ρ' hid st' s' ∧ R ρ' v V) (fun _ _ => False) s
def PL {α β : Type} (cx : Cx) (t : List Value → Sem α) (f : List V → PM β) (R : Map → β → α → Prop) : Prop :=
  ∀ ρ hid st s, Rel cx ρ hid st s → ∀ vs Vs, VRs ρ vs Vs → ∀ v st', f vs st = .ok v st' →
    wpAny cx.M cx.A (t Vs) (fun V s' => ∃ ρ', ρ <+: ρ' ∧ Rel cx ρ' hid st' s' ∧ R ρ' v V) (fun _ _ => False) s
section
variable {cx : Cx}
theorem sim_BinOp {l r : Expr} {op : Operator} {pos : Pos} {ma mb : PM V} {f : V → V → PM V} (h1 : SimV cx (eval l cx.env) ma) (h2 : SimV cx (eval r cx.env) mb) (hp : P2 cx (binaryOp op) f VR) :
    SimV cx (eval (.BinOp l op r pos) cx.env) (PM.bind ma fun a => PM.bind mb fun b => f a b) := by
  intro ρ hid st s x v st' h
  obtain ⟨a, st1, e1, h⟩ := bind_ok h
  obtain ⟨b, st2, e2, h⟩ := bind_ok h
  refine wpAny_BinOp (wp_seq (h1 ρ hid st s x a st1 e1) fun A s1 ρ1 p1 r1 v1 => wp_seq (h2 ρ1 hid st1 s1 r1 b st2 e2) fun B s2 ρ2 p2 r2 v2 => wp_seq (hp ρ2 hid st2 s2 r2 a A b B (v1.mono p2) v2 v st' h) fun W s3 ρ3 p3 r3 v3 => ?_)
  exact ⟨ρ3, pre_trans p1 (pre_trans p2 p3), r3, v3⟩
theorem sim_Compare {l r : Expr} {op : CmpOp} {pos : Pos} {ma mb : PM V} {f : V → V → PM V} (h1 : SimV cx (eval l cx.env) ma) (h2 : SimV cx (eval r cx.env) mb) (hp : P2 cx (compareOp op) f VR) (hm : behindInMarks op r = false) :
    SimV cx (eval (.Compare l [op] [r] pos) cx.env) (PM.bind ma fun a => PM.bind mb fun b => f a b) := by
  intro ρ hid st s x v st' h
  obtain ⟨a, st1, e1, h⟩ := bind_ok h
  obtain ⟨b, st2, e2, h⟩ := bind_ok h
  refine wpAny_Compare1 (wp_seq (h1 ρ hid st s x a st1 e1) fun A s1 ρ1 p1 r1 v1 => wp_seq (h2 ρ1 hid st1 s1 r1 b st2 e2) fun B s2 ρ2 p2 r2 v2 => wp_seq (hp ρ2 hid st2 s2 r2 a A b B (v1.mono p2) v2 v st' h) fun W s3 ρ3 p3 r3 v3 => ?_) hm
  exact ⟨ρ3, pre_trans p1 (pre_trans p2 p3), r3, v3⟩
/-- tests -/
abbrev SimT (cx : Cx) (e : Expr) (m : PM Bool) : Prop := Sim cx (isTrue e cx.env (eval e cx.env)) m BR
theorem sim_test {e : Expr} {ma : PM V} {f : V → PM Bool} (h1 : SimV cx (eval e cx.env) ma) (hp : P1 cx truthy f BR)
    (he : isTrue e cx.env (eval e cx.env) = (do let v ← eval e cx.env; standAt e.pos; holding [v] (truthy v)) := by rfl) : SimT cx e (PM.bind ma f) := by
  intro ρ hid st s x v st' h
  obtain ⟨a, st1, e1, h⟩ := bind_ok h
  rw [he]
  refine wpAny_bind (wp_seq (h1 ρ hid st s x a st1 e1) fun A s1 ρ1 p1 r1 v1 => wpAny_bind (wpAny_standAt (wpAny_holding (wp_seq (hp ρ1 hid st1 s1 r1 a A v1 v st' h) fun W s3 ρ3 p3 r3 v3 => ?_))))
  exact ⟨ρ3, pre_trans p1 p3, r3, v3⟩
theorem sim_test_Compare {l r : Expr} {op : CmpOp} {pos : Pos} {ma mb : PM V} {f : V → V → PM V} {g : V → PM Bool} (h1 : SimV cx (eval l cx.env) ma) (h2 : SimV cx (eval r cx.env) mb) (hp : P2 cx (compareOp op) f VR) (ht : P1 cx truthy g BR) (hm : behindInMarks op r = false) :
    SimT cx (.Compare l [op] [r] pos) (PM.bind ma fun a => PM.bind mb fun b => PM.bind (f a b) g) := by
  intro ρ hid st s x v st' h
  obtain ⟨a, st1, e1, h⟩ := bind_ok h
  obtain ⟨b, st2, e2, h⟩ := bind_ok h
  obtain ⟨c, st3, e3, h⟩ := bind_ok h
  refine wpAny_isTrue_Compare1 (wp_seq (h1 ρ hid st s x a st1 e1) fun A s1 ρ1 p1 r1 v1 => wp_seq (h2 ρ1 hid st1 s1 r1 b st2 e2) fun B s2 ρ2 p2 r2 v2 => wp_seq (hp ρ2 hid st2 s2 r2 a A b B (v1.mono p2) v2 c st3 e3) fun W s3 ρ3 p3 r3 v3 => wp_seq (ht ρ3 hid st3 s3 r3 c W v3 v st' h) fun W s4 ρ4 p4 r4 v4 => ?_) hm
  exact ⟨ρ4, pre_trans p1 (pre_trans p2 (pre_trans p3 p4)), r4, v4⟩
theorem sim_test_Not {e : Expr} {pos : Pos} {m : PM Bool} (h1 : SimT cx e m) : SimT cx (.UnaryOp .Not e pos) (PM.bind m fun b => PM.pure (!b)) := by
  intro ρ hid st s x v st' h
  obtain ⟨b, st1, e1, h⟩ := bind_ok h
  obtain ⟨rfl, rfl⟩ := pure_ok h
  refine wpAny_isTrue_Not (wp_seq (h1 ρ hid st s x b _ e1) fun c s1 ρ1 p1 r1 v1 => ⟨ρ1, p1, r1, ?_⟩)
  cases v1; rfl
def andP (m k : PM Bool) : PM Bool := PM.bind m fun b => match b with | true => k | false => PM.pure false
def orP (m k : PM Bool) : PM Bool := PM.bind m fun b => match b with | true => PM.pure true | false => k
abbrev SimA (cx : Cx) (op : BoolOp) (es : List Expr) (m : PM Bool) : Prop := Sim cx (allTrue op es cx.env) m BR
theorem sim_all_nil_or : SimA cx .Or [] (PM.pure false) := by
  intro ρ hid st s x v st' h; cases h
  exact wpAny_pure ⟨ρ, pre_refl ρ, x, rfl⟩
theorem sim_all_or {e : Expr} {es : List Expr} {m k : PM Bool} (h1 : SimT cx e m) (h2 : SimA cx .Or es k) : SimA cx .Or (e :: es) (orP m k) := by
  intro ρ hid st s x v st' h
  obtain ⟨b, st1, e1, h⟩ := bind_ok h
  rw [arm_allTrue_cons]
  refine wpAny_bind (wp_seq (h1 ρ hid st s x b st1 e1) fun c s1 ρ1 p1 r1 v1 => ?_)
  cases v1
  cases b with
  | false => exact wp_seq (h2 ρ1 hid st1 s1 r1 v st' h) fun d s2 ρ2 p2 r2 v2 => ⟨ρ2, pre_trans p1 p2, r2, v2⟩
  | true => cases h; exact wpAny_pure ⟨ρ1, p1, r1, rfl⟩
theorem sim_test_BoolOp {op : BoolOp} {es : List Expr} {pos : Pos} {m : PM Bool} (h : SimA cx op es m) : SimT cx (.BoolOp op es pos) m := h
def iteP {α : Type} (m : PM Bool) (a b : PM α) : PM α := PM.bind m fun c => match c with | true => a | false => b
theorem sim_IfExp {t a b : Expr} {pos : Pos} {m : PM Bool} {ma mb : PM V} (h : SimT cx t m) (h1 : SimV cx (eval a cx.env) ma) (h2 : SimV cx (eval b cx.env) mb) : SimV cx (eval (.IfExp t a b pos) cx.env) (iteP m ma mb) := by
  intro ρ hid st s x v st' e
  obtain ⟨c, st1, e1, e⟩ := bind_ok e
  rw [arm_eval_IfExp]
  refine wpAny_bind (wp_seq (h ρ hid st s x c st1 e1) fun c' s1 ρ1 p1 r1 v1 => ?_)
  cases v1
  cases c with
  | true => exact wp_seq (h1 ρ1 hid st1 s1 r1 v st' e) fun d s2 ρ2 p2 r2 v2 => ⟨ρ2, pre_trans p1 p2, r2, v2⟩
  | false => exact wp_seq (h2 ρ1 hid st1 s1 r1 v st' e) fun d s2 ρ2 p2 r2 v2 => ⟨ρ2, pre_trans p1 p2, r2, v2⟩
/-- lists of arguments -/
abbrev SimL (cx : Cx) (pos : Pos) (es : List Expr) (m : PM (List V)) : Prop := Sim cx (spliced (backTo pos (starEach es cx.env))) m VRs
theorem sim_args_nil {pos : Pos} : SimL cx pos [] (PM.pure []) := by
  intro ρ hid st s x v st' h; cases h
  exact spliced_nil ⟨ρ, pre_refl ρ, x, .nil⟩
theorem sim_args_cons {pos : Pos} {e : Expr} {es : List Expr} {m : PM V} {k : PM (List V)} (h1 : SimV cx (eval e cx.env) m) (h2 : SimL cx pos es k) (he : starEach (e :: es) cx.env = (false, eval e cx.env) :: starEach es cx.env) :
    SimL cx pos (e :: es) (PM.bind m fun v => PM.bind k fun vs => PM.pure (v :: vs)) := by
  intro ρ hid st s x v st' h
  obtain ⟨a, st1, e1, h⟩ := bind_ok h
  obtain ⟨b, st2, e2, h⟩ := bind_ok h
  obtain ⟨rfl, rfl⟩ := pure_ok h
  rw [he]
  refine spliced_cons (wp_seq (h1 ρ hid st s x a st1 e1) fun A s1 ρ1 p1 r1 v1 => ?_)
  refine wp_seq (h2 ρ1 hid st1 s1 r1 b st' e2) fun Bs s2 ρ2 p2 r2 v2 => ?_
  exact ⟨ρ2, pre_trans p1 p2, r2, .cons (v1.mono p2) v2⟩
/-- displays -/
def alloc (o : O) : PM V := fun st => .ok (.obj st.sto.length) { st with sto := st.sto ++ [o] }
def allocList (vs : List V) : PM V := fun st => if vs.length ≤ 1000000 then alloc (.list vs) st else .fail
def allocTuple (vs : List V) : PM V := fun st => if vs.length ≤ 1000000 then alloc (.tuple vs) st else .fail
theorem alloc_get (ρ : Map) (p : Addr × Addr) : (ρ ++ [p])[ρ.length]? = some p := by
  rw [List.getElem?_append_right (Nat.le_refl _), Nat.sub_self]; rfl
theorem news_fresh {h₀ h : Heap} {L : Addr} {led : Led} (N : News h₀ L h led) : ∀ q ∈ led, q.1 ≠ h.objs.size := fun q hq => Nat.ne_of_lt (Heap.lt_size (N q hq).1)
/-- a new object, one address, by a step that pushes it -/
theorem rel_push {ρ : Map} {hid : Hd} {st : St} {s : Shared} (x : Rel cx ρ hid st s) {ob : Obj} {o : O} {tk : Nat} (hf : ob.isFreed = false)
    (ho : ∀ fz led, OAt cx (ρ ++ [(s.heap.objs.size, s.heap.objs.size)]) fz ((s.heap.objs.size, ob) :: led) (s.heap.objs.size, s.heap.objs.size) o) (htk : 0 < tk := by first | assumption | exact Nat.succ_pos _ | exact Rel.pos (by assumption) | exact RelD.tk (by assumption)) :
    Rel cx (ρ ++ [(s.heap.objs.size, s.heap.objs.size)]) hid { st with sto := st.sto ++ [o] } { s with heap := s.heap.push ob, toks := tk } ∧
      VR (ρ ++ [(s.heap.objs.size, s.heap.objs.size)]) (.obj st.sto.length) (.ref s.heap.objs.size) := by
  obtain ⟨fz, led, m, mloc, x⟩ := x
  refine ⟨RelD.rel (x.go (tk := tk) (x.F.push ob) (x.N.push x.F ob hf) (x.B.alloc (news_fresh x.N) (ho fz led))), ?_⟩
  have := VR.obj (alloc_get ρ (s.heap.objs.size, s.heap.objs.size))
  rw [x.B.len] at this
  exact this
/-- a new object that is not told -/
theorem rel_garbage {ρ : Map} {hid : Hd} {st : St} {s : Shared} (x : Rel cx ρ hid st s) {ob : Obj} {tk : Nat} (hf : ob.isFreed = false) (htk : 0 < tk := by first | assumption | exact Nat.succ_pos _ | exact Rel.pos (by assumption) | exact RelD.tk (by assumption)) : Rel cx ρ hid st { s with heap := s.heap.push ob, toks := tk } := by
  obtain ⟨fz, led, m, mloc, x⟩ := x
  exact RelD.rel (x.go (tk := tk) (x.F.push ob) (x.N.push x.F ob hf) (x.B.more (news_fresh x.N)))
theorem new_list {ρ : Map} {hid : Hd} {st st' : St} {s : Shared} (x : Rel cx ρ hid st s) {vs : List V} {Vs : List Value} {v : V} (hv : VRs ρ vs Vs) (h : allocList vs st = .ok v st') {Q : Value → Shared → Prop} {E : Value → Shared → Prop} {A : Around}
    (k : ∀ ρ' W s', ρ <+: ρ' → Rel cx ρ' hid st' s' → VR ρ' v W → Q W s') : wpAny cx.M A (newList Vs) Q E s := by
  unfold allocList at h
  split at h
  · rename_i hl
    cases h
    have hlen : Vs.length ≤ sizeLine := by rw [← hv.length]; exact Nat.le_trans hl (by decide)
    refine wpAny_newObj_type ?_ (by show Vs.toArray.size ≤ sizeLine; rw [List.size_toArray]; exact hlen)
    obtain ⟨a, b⟩ := rel_push (tk := s.toks) x (ob := listObj Vs 0) (o := .list vs) rfl fun fz led => ⟨Vs, 0, hv.mono (List.prefix_append _ _), .head _⟩
    exact k _ _ _ (List.prefix_append _ _) a b
  · cases h
theorem new_tuple {ρ : Map} {hid : Hd} {st st' : St} {s : Shared} (x : Rel cx ρ hid st s) {vs : List V} {Vs : List Value} {v : V} (hv : VRs ρ vs Vs) (h : allocTuple vs st = .ok v st') {Q : Value → Shared → Prop} {E : Value → Shared → Prop} {A : Around}
    (k : ∀ ρ' W s', ρ <+: ρ' → Rel cx ρ' hid st' s' → VR ρ' v W → Q W s') : wpAny cx.M A (newTuple Vs) Q E s := by
  unfold allocTuple at h
  split at h
  · rename_i hl
    cases h
    have hlen : Vs.length ≤ sizeLine := by rw [← hv.length]; exact Nat.le_trans hl (by decide)
    refine wpAny_newObj_type ?_ (by show Vs.toArray.size ≤ sizeLine; rw [List.size_toArray]; exact hlen)
    obtain ⟨a, b⟩ := rel_push (tk := s.toks) x (ob := tupleObj Vs 0) (o := .tuple vs) rfl fun fz led => ⟨Vs, 0, hv.mono (List.prefix_append _ _), .head _⟩
    exact k _ _ _ (List.prefix_append _ _) a b
  · cases h
theorem sim_List {es : List Expr} {pos : Pos} {m : PM (List V)} (h1 : SimL cx pos es m) : SimV cx (eval (.List es pos) cx.env) (PM.bind m allocList) := by
  intro ρ hid st s x v st' h
  obtain ⟨vs, st1, e1, h⟩ := bind_ok h
  refine List_ (wp_seq (h1 ρ hid st s x vs st1 e1) fun Vs s1 ρ1 p1 r1 v1 => new_list r1 v1 h fun ρ' W s' p2 r2 v2 => ⟨ρ', pre_trans p1 p2, r2, v2⟩)
theorem sim_Tuple {es : List Expr} {k : Nat} {pos : Pos} {m : PM (List V)} (h1 : SimL cx pos es m) : SimV cx (eval (.Tuple es k pos) cx.env) (PM.bind m allocTuple) := by
  intro ρ hid st s x v st' h
  obtain ⟨vs, st1, e1, h⟩ := bind_ok h
  refine Tuple_ (wp_seq (h1 ρ hid st s x vs st1 e1) fun Vs s1 ρ1 p1 r1 v1 => new_tuple r1 v1 h fun ρ' W s' p2 r2 v2 => ⟨ρ', pre_trans p1 p2, r2, v2⟩)
/-- statements -/
abbrev SimS (cx : Cx) (s : Stmt) (m : PM Fl) : Prop := Sim cx (exec s cx.env) m FR
abbrev SimSs (cx : Cx) (ss : List Stmt) (m : PM Fl) : Prop := Sim cx (execs ss cx.env) m FR
def seqF (m k : PM Fl) : PM Fl := PM.bind m fun f => match f with
  | .next => k
  | .brk => PM.pure .brk
  | .cont => PM.pure .cont
  | .ret v => PM.pure (.ret v)
theorem sim_nil : SimSs cx [] (PM.pure .next) := by
  intro ρ hid st s x v st' h; cases h
  exact wpAny_execs_nil ⟨ρ, pre_refl ρ, x, .next⟩
theorem sim_cons {a : Stmt} {r : List Stmt} {m k : PM Fl} (h1 : SimS cx a m) (h2 : SimSs cx r k) : SimSs cx (a :: r) (seqF m k) := by
  intro ρ hid st s x v st' h
  obtain ⟨f, st1, e1, h⟩ := bind_ok h
  refine wpAny_execs_cons (wp_seq (h1 ρ hid st s x f st1 e1) fun g s1 ρ1 p1 r1 v1 => ?_)
  cases v1 with
  | next => exact wp_seq (h2 ρ1 hid st1 s1 r1 v st' h) fun d s2 ρ2 p2 r2 v2 => ⟨ρ2, pre_trans p1 p2, r2, v2⟩
  | brk => cases h; exact ⟨ρ1, p1, r1, .brk⟩
  | cont => cases h; exact ⟨ρ1, p1, r1, .cont⟩
  | ret hv => cases h; exact ⟨ρ1, p1, r1, .ret hv⟩
theorem sim_one {a : Stmt} {m : PM Fl} (h1 : SimS cx a m) : SimSs cx [a] m := by
  intro ρ hid st s x v st' h
  refine wpAny_execs_cons (wp_seq (h1 ρ hid st s x v st' h) fun g s1 ρ1 p1 r1 v1 => ?_)
  cases v1 with
  | next => exact wpAny_execs_nil ⟨ρ1, p1, r1, .next⟩
  | brk => exact ⟨ρ1, p1, r1, .brk⟩
  | cont => exact ⟨ρ1, p1, r1, .cont⟩
  | ret hv => exact ⟨ρ1, p1, r1, .ret hv⟩
theorem sim_If {t : Expr} {a b : List Stmt} {pos : Pos} {m : PM Bool} {ma mb : PM Fl} (h : SimT cx t m) (h1 : SimSs cx a ma) (h2 : SimSs cx b mb) : SimS cx (.If t a b pos) (iteP m ma mb) := by
  intro ρ hid st s x v st' e
  obtain ⟨c, st1, e1, e⟩ := bind_ok e
  refine wpAny_If (wp_seq (h ρ hid st s x c st1 e1) fun c' s1 ρ1 p1 r1 v1 => ?_)
  cases v1
  cases c with
  | true => exact wp_seq (h1 ρ1 hid st1 s1 r1 v st' e) fun d s2 ρ2 p2 r2 v2 => ⟨ρ2, pre_trans p1 p2, r2, v2⟩
  | false => exact wp_seq (h2 ρ1 hid st1 s1 r1 v st' e) fun d s2 ρ2 p2 r2 v2 => ⟨ρ2, pre_trans p1 p2, r2, v2⟩
theorem sim_Return {e : Expr} {pos : Pos} {m : PM V} (h : SimV cx (eval e cx.env) m) : SimS cx (.Return (some e) pos) (PM.bind m fun v => PM.pure (.ret v)) := by
  intro ρ hid st s x v st' e
  obtain ⟨a, st1, e1, e⟩ := bind_ok e
  obtain ⟨rfl, rfl⟩ := pure_ok e
  exact wpAny_Return_some (wp_seq (h ρ hid st s x a st' e1) fun A s1 ρ1 p1 r1 v1 => ⟨ρ1, p1, r1, .ret v1⟩)
theorem sim_Assign (ok : cx.Ok) {n : String} {e : Expr} {pos' pos : Pos} {m : PM V} (h : SimV cx (eval e cx.env) m)
    (hk : Asg cx n)
    (hs : swapsWith e (some (.Name (Str.ofString n) pos')) pos.line cx.env = pure false) : SimS cx (.Assign [.Name (Str.ofString n) pos'] e pos) (PM.bind m fun v => PM.bind (setL n v) fun _ => PM.pure .next) := by
  intro ρ hid st s x v st' e
  obtain ⟨a, st1, e1, e⟩ := bind_ok e
  cases e
  exact wpAny_Assign_Name (wp_seq (h ρ hid st s x a st1 e1) fun A s1 ρ1 p1 r1 v1 => store_name ok r1 v1 hk fun s' r' => ⟨ρ1, p1, r', .next⟩) hs
theorem sim_AugName (ok : cx.Ok) {n : String} {e : Expr} {op : Operator} {pos' pos : Pos} {m : PM V} {f : V → V → PM V} (h : SimV cx (eval e cx.env) m) (hp : P2 cx (inplaceOp op) f VR)
    (hk : Asg cx n) (hcd : (Str.ofString n == ("__classdict__" : Str)) = false) :
    SimS cx (.AugAssign (.Name (Str.ofString n) pos') op e pos) (PM.bind (getL n) fun a => PM.bind m fun b => PM.bind (f a b) fun c => PM.bind (setL n c) fun _ => PM.pure .next) := by
  intro ρ hid st s x v st' e
  obtain ⟨a, st1, e1, e⟩ := bind_ok e
  obtain ⟨b, st2, e2, e⟩ := bind_ok e
  obtain ⟨c, st3, e3, e⟩ := bind_ok e
  cases e
  unfold getL at e1
  cases hv : st.loc n with
  | none => rw [hv] at e1; cases e1
  | some w =>
    rw [hv] at e1
    cases e1
    refine wpAny_AugAssign_Name (load_name ok x hv hcd fun W hw => wp_seq (h ρ hid st s x b st2 e2) fun B s2 ρ2 p2 r2 v2 => wp_seq (hp ρ2 hid st2 s2 r2 _ W b B (hw.mono p2) v2 c st3 e3) fun D s3 ρ3 p3 r3 v3 => store_name ok r3 v3 hk fun s' r' => ⟨ρ3, pre_trans p2 p3, r', .next⟩)
end
end Mine
namespace Mine
def pAdd : V → V → PM V
  | .int a, .int b => PM.pure (.int (a + b))
  | .str a, .str b => fun st => if a.length + b.length ≤ 1000000 then .ok (.str (a ++ b)) st else .fail
  | .obj i, .obj j => fun st => match st.sto[i]?, st.sto[j]? with
    | some (.list xs), some (.list ys) => allocList (xs ++ ys) st
    | _, _ => .fail
  | _, _ => PM.fail
def pSub : V → V → PM V
  | .int a, .int b => PM.pure (.int (a - b))
  | _, _ => PM.fail
def small (a : Int) : Bool := decide (-18446744073709551616 < a) && decide (a < 18446744073709551616)
def pDiv : V → V → PM V
  | .int a, .int b => fun st => if 0 < b ∧ b < 1000000000 then .ok (.int (a / b)) st else .fail
  | _, _ => PM.fail
def pMod : V → V → PM V
  | .int a, .int b => fun st => if 0 < b then .ok (.int (a % b)) st else .fail
  | _, _ => PM.fail
def pPow : V → V → PM V
  | .int a, .int b => fun st => if small a && (decide (0 ≤ b) && decide (b ≤ 1000)) then .ok (.int (a ^ b.toNat)) st else .fail
  | _, _ => PM.fail
def pNeg : V → PM V
  | .int a => PM.pure (.int (-a))
  | _ => PM.fail
theorem small_iff {a : Int} (h : small a = true) : a.natAbs < 2 ^ 64 := by
  unfold small at h
  rw [Bool.and_eq_true, decide_eq_true_eq, decide_eq_true_eq] at h
  omega
theorem vr_int {ρ : Map} {i : Int} {W : Value} (h : VR ρ (.int i) W) : ∃ t, W = .int i t := by cases h; exact ⟨_, rfl⟩
theorem vr_str {ρ : Map} {l : List Nat} {W : Value} (h : VR ρ (.str l) W) : ∃ t, W = .str ⟨l.toArray⟩ t := by cases h; exact ⟨_, rfl⟩
theorem vr_ok {ρ : Map} {l : List Nat} {W : Value} (h : VR ρ (.str l) W) : okS l := by cases h; assumption
theorem vr_bool {ρ : Map} {b : Bool} {W : Value} (h : VR ρ (.bool b) W) : W = .bool b := by cases h; rfl
theorem vr_none {ρ : Map} {W : Value} (h : VR ρ .none W) : W = .none := by cases h; rfl
theorem vr_obj {ρ : Map} {i : Nat} {W : Value} (h : VR ρ (.obj i) W) : ∃ p, ρ[i]? = some p ∧ W = .ref p.1 := by cases h; rename_i p e; exact ⟨p, e, rfl⟩
theorem vr_glob {ρ : Map} {u W : Value} (h : VR ρ (.glob u) W) : W = u := by cases h; rfl
theorem str_app (a b : List Nat) : (⟨a.toArray⟩ : Str) ++ (⟨b.toArray⟩ : Str) = ⟨(a ++ b).toArray⟩ := by
  show Str.append _ _ = _
  unfold Str.append
  simp
theorem str_len (a : List Nat) : (⟨a.toArray⟩ : Str).length = a.length := by simp [Str.length]
section
variable {cx : Cx}
/-- the end of a step that makes a plain value -/
theorem fin_toks {β : Type} {ρ : Map} {hid : Hd} {st : St} {s : Shared} (x : Rel cx ρ hid st s) {tk : Nat} {R : Map → β → Value → Prop} {b : β} {W : Value} (h : R ρ b W) (htk : 0 < tk := by first | assumption | exact Nat.succ_pos _ | exact Rel.pos (by assumption) | exact RelD.tk (by assumption)) :
    ∃ ρ', ρ <+: ρ' ∧ Rel cx ρ' hid st { s with toks := tk } ∧ R ρ' b W := ⟨ρ, pre_refl ρ, x.toks tk, h⟩
theorem fin_same {β α : Type} {ρ : Map} {hid : Hd} {st : St} {s : Shared} (x : Rel cx ρ hid st s) {R : Map → β → α → Prop} {b : β} {W : α} (h : R ρ b W) :
    ∃ ρ', ρ <+: ρ' ∧ Rel cx ρ' hid st s ∧ R ρ' b W := ⟨ρ, pre_refl ρ, x, h⟩
theorem p_div : P2 cx (binaryOp .FloorDiv) pDiv VR := by
  intro ρ hid st s x a A b B ha hb v st' h
  unfold pDiv at h
  split at h
  · rename_i a b
    obtain ⟨t, rfl⟩ := vr_int ha; obtain ⟨u, rfl⟩ := vr_int hb
    split at h
    · rename_i hp
      cases h
      refine PyProof.Rows.floordiv_int (by omega) ?_ (hp := .inl (PyProof.noPylong_small (by omega)))
      rw [Int.fdiv_eq_ediv_of_nonneg _ (by omega)]
      exact fin_toks x (.int _ _)
    · cases h
  · cases h
theorem p_mod : P2 cx (binaryOp .Mod) pMod VR := by
  intro ρ hid st s x a A b B ha hb v st' h
  unfold pMod at h
  split at h
  · rename_i a b
    obtain ⟨t, rfl⟩ := vr_int ha; obtain ⟨u, rfl⟩ := vr_int hb
    split at h
    · rename_i hp
      cases h
      refine PyProof.Rows.mod_int (by omega) ?_
      rw [Int.fmod_eq_emod_of_nonneg _ (by omega)]
      exact fin_toks x (.int _ _)
    · cases h
  · cases h
/-- comparisons of ints -/
def pLt : V → V → PM V
  | .int a, .int b => PM.pure (.bool (decide (a < b)))
  | _, _ => PM.fail
def pLe : V → V → PM V
  | .int a, .int b => PM.pure (.bool (decide (a ≤ b)))
  | _, _ => PM.fail
/-- the int that a value counts as in a comparison -/
def asI : V → Option Int
  | .int a => some a
  | .bool b => some (if b then 1 else 0)
  | _ => none
def pGt (a b : V) : PM V := match a, b with
  | .int a, .int b => PM.pure (.bool (decide (b < a)))
  | .bool a, .int b => PM.pure (.bool (decide (b < (if a then 1 else 0))))
  | .int a, .bool b => PM.pure (.bool (decide ((if b then 1 else 0) < a)))
  | .bool a, .bool b => PM.pure (.bool (decide ((if b then (1 : Int) else 0) < (if a then 1 else 0))))
  | _, _ => PM.fail
def pGe : V → V → PM V
  | .int a, .int b => PM.pure (.bool (decide (b ≤ a)))
  | _, _ => PM.fail
/-- identity -/
def isP : V → V → Option Bool
  | .none, .none => some true
  | .bool _, .none => some false
  | .int _, .none => some false
  | .str _, .none => some false
  | .obj _, .none => some false
  | .bool a, .bool b => some (a == b)
  | .obj i, .obj j => if i = j then some true else none
  | .glob (.type a), .glob (.type b) => some (a == b)
  | _, _ => none
def pIs (a b : V) : PM V := fun st => match isP a b with | some c => .ok (.bool c) st | none => .fail
def pIsNot (a b : V) : PM V := fun st => match isP a b with | some c => .ok (.bool (!c)) st | none => .fail
theorem same_sem {ρ : Map} {a b : V} {A B : Value} {c : Bool} (ha : VR ρ a A) (hb : VR ρ b B) (h : isP a b = some c) {M : Model} {Ar : Around} {Q : Bool → Shared → Prop} {E : Value → Shared → Prop} {s : Shared} (hq : Q c s) :
    wpAny M Ar (isSame A B) Q E s := by
  unfold isP at h
  split at h
  · cases vr_none ha; cases vr_none hb; cases h; exact wpAny_pure hq
  · cases vr_bool ha; cases vr_none hb; cases h; exact wpAny_pure hq
  · obtain ⟨t, rfl⟩ := vr_int ha; cases vr_none hb; cases h; exact wpAny_pure hq
  · obtain ⟨t, rfl⟩ := vr_str ha; cases vr_none hb; cases h; exact wpAny_pure hq
  · obtain ⟨p, _, rfl⟩ := vr_obj ha; cases vr_none hb; cases h; exact wpAny_pure hq
  · rename_i a b
    cases vr_bool ha; cases vr_bool hb; cases h
    have e : (Value.bool a == Value.bool b) = (a == b) := by cases a <;> cases b <;> rfl
    exact wpAny_pure (a := (Value.bool a == Value.bool b)) (by rw [e]; exact hq)
  · split at h
    · rename_i i j e
      subst e
      obtain ⟨p, e1, rfl⟩ := vr_obj ha; obtain ⟨q, e2, rfl⟩ := vr_obj hb
      have : p = q := Option.some.inj (e1.symm.trans e2)
      subst this
      cases h
      unfold isSame
      dsimp only
      rw [if_pos (beq_self_eq_true _)]
      exact wpAny_pure hq
    · cases h
  · rename_i a b
    cases vr_glob ha; cases vr_glob hb; cases h
    have e : (Value.type a == Value.type b) = (a == b) := by
      cases q : a == b with
      | true => rw [beq_iff_eq] at q; subst q; exact beq_self_eq_true _
      | false => rw [beq_eq_false_iff_ne] at q ⊢; exact fun e => q (Value.type.inj e)
    exact wpAny_pure (a := (Value.type a == Value.type b)) (by rw [e]; exact hq)
  · cases h
theorem p_isnot : P2 cx (compareOp .IsNot) pIsNot VR := by
  intro ρ hid st s x a A b B ha hb v st' h
  unfold pIsNot at h
  split at h
  · rename_i c e
    cases h
    exact wpAny_bind (same_sem ha hb e (wpAny_pure (fin_same x (.bool _))))
  · cases h
end
end Mine
namespace Mine
section
variable {cx : Cx} {ρ : Map} {hid : Hd} {fz led : Led} {m mloc : Str → Option Value} {st : St} {s : Shared}
theorem RelD.list_at (x : RelD cx ρ hid fz led m mloc st s) {i : Nat} {xs : List V} {p : Addr × Addr} (hi : st.sto[i]? = some (.list xs)) (hp : ρ[i]? = some p) : ∃ Xs n, VRs ρ xs Xs ∧ (p.1, listOf Xs.toArray n) ∈ led := x.B.obj i _ p hi hp
theorem RelD.tuple_at (x : RelD cx ρ hid fz led m mloc st s) {i : Nat} {xs : List V} {p : Addr × Addr} (hi : st.sto[i]? = some (.tuple xs)) (hp : ρ[i]? = some p) : ∃ Xs n, VRs ρ xs Xs ∧ (p.1, tupleObj Xs n) ∈ led := x.B.obj i _ p hi hp
theorem RelD.put_list (x : RelD cx ρ hid fz led m mloc st s) {i : Nat} {p : Addr × Addr} {ys : List V} {Ys : List Value} {n' : Nat} {h' : Heap} {tk : Nat} {o : Obj} (hp : ρ[i]? = some p) (hm : (p.1, o) ∈ led) (hv : VRs ρ ys Ys)
    (F : Fr cx.h₀ cx.L h' m) (N : News cx.h₀ cx.L h' (updL p.1 (listOf Ys.toArray n') led)) (htk : 0 < tk := by first | assumption | exact Nat.succ_pos _ | exact Rel.pos (by assumption) | exact RelD.tk (by assumption)) : Rel cx ρ hid { st with sto := st.sto.set i (.list ys) } { s with heap := h', toks := tk } :=
  RelD.rel (x.go F N (x.B.upd hp (.inl rfl) ⟨Ys, n', hv, mem_updL_self hm⟩))
end
theorem vrs_length {ρ : Map} {vs : List V} {Vs : List Value} (h : VRs ρ vs Vs) : vs.length = Vs.length := h.length
theorem vrs_append {ρ : Map} : ∀ {a : List V} {A : List Value} {b : List V} {B : List Value}, VRs ρ a A → VRs ρ b B → VRs ρ (a ++ b) (A ++ B)
  | _, _, _, _, .nil, h => h
  | _, _, _, _, .cons x t, h => .cons x (vrs_append t h)
theorem vrs_get {ρ : Map} : ∀ {a : List V} {A : List Value} {k : Nat} {v : V}, VRs ρ a A → a[k]? = some v → ∃ W, A[k]? = some W ∧ VR ρ v W
  | _, _, 0, v, .cons x t, h => by simp at h; subst h; exact ⟨_, rfl, x⟩
  | _, _, k + 1, v, .cons x t, h => by
    simp only [List.getElem?_cons_succ] at h ⊢
    exact vrs_get t h
theorem vrs_take {ρ : Map} : ∀ {a : List V} {A : List Value} (k : Nat), VRs ρ a A → VRs ρ (a.take k) (A.take k)
  | _, _, 0, _ => by simp only [List.take_zero]; exact .nil
  | _, _, k + 1, .nil => by simp only [List.take_nil]; exact .nil
  | _, _, k + 1, .cons x t => by simp only [List.take_succ_cons]; exact .cons x (vrs_take k t)
theorem vrs_drop {ρ : Map} : ∀ {a : List V} {A : List Value} (k : Nat), VRs ρ a A → VRs ρ (a.drop k) (A.drop k)
  | _, _, 0, h => by simp only [List.drop_zero]; exact h
  | _, _, k + 1, .nil => by simp only [List.drop_nil]; exact .nil
  | _, _, k + 1, .cons x t => by simp only [List.drop_succ_cons]; exact vrs_drop k t
theorem vrs_snoc {ρ : Map} {a : List V} {v : V} {B : List Value} (h : VRs ρ (a ++ [v]) B) : ∃ A W, B = A ++ [W] ∧ VRs ρ a A ∧ VR ρ v W := by
  induction a generalizing B with
  | nil => cases h with | cons x t => cases t; exact ⟨[], _, rfl, .nil, x⟩
  | cons y r ih =>
    cases h with
    | cons x t =>
      obtain ⟨A, W, rfl, h1, h2⟩ := ih t
      exact ⟨_ :: A, W, rfl, .cons x h1, h2⟩
/-- methods of lists -/
def cAppend : List V → PM V
  | [.obj i, v] => fun st => match st.sto[i]? with
    | some (.list xs) => if xs.length ≤ 1000000 then .ok .none { st with sto := st.sto.set i (.list (xs ++ [v])) } else .fail
    | _ => .fail
  | _ => PM.fail
def cInsert : List V → PM V
  | [.obj i, .int k, v] => fun st => match st.sto[i]? with
    | some (.list xs) => if xs.length ≤ 1000000 ∧ 0 ≤ k ∧ k ≤ xs.length then .ok .none { st with sto := st.sto.set i (.list (xs.take k.toNat ++ v :: xs.drop k.toNat)) } else .fail
    | _ => .fail
  | _ => PM.fail
abbrev PC (cx : Cx) (u : Value) (f : List V → PM V) : Prop := PL cx (fun Vs => call u Vs) f VR
theorem vrs_two {ρ : Map} {a b : V} {Vs : List Value} (h : VRs ρ [a, b] Vs) : ∃ A B, Vs = [A, B] ∧ VR ρ a A ∧ VR ρ b B := by
  cases h with | cons x t => cases t with | cons y r => cases r; exact ⟨_, _, rfl, x, y⟩
theorem vrs_one {ρ : Map} {a : V} {Vs : List Value} (h : VRs ρ [a] Vs) : ∃ A, Vs = [A] ∧ VR ρ a A := by
  cases h with | cons x t => cases t; exact ⟨_, rfl, x⟩
theorem vrs_three {ρ : Map} {a b c : V} {Vs : List Value} (h : VRs ρ [a, b, c] Vs) : ∃ A B C, Vs = [A, B, C] ∧ VR ρ a A ∧ VR ρ b B ∧ VR ρ c C := by
  cases h with | cons x t => cases t with | cons y r => cases r with | cons z q => cases q; exact ⟨_, _, _, rfl, x, y, z⟩
theorem list_fits {n : Nat} (h : n ≤ 1000000) : n ≤ sizeLine := Nat.le_trans h (by decide)
theorem size_push_eq (Xs : List Value) (W : Value) : Xs.toArray.push W = (Xs ++ [W]).toArray := by simp
section
variable {cx : Cx}
theorem pc_append : PC cx (.builtin "list.append") cAppend := by
  intro ρ hid st s x vs Vs hv v st' h
  unfold cAppend at h
  split at h
  · rename_i i w
    obtain ⟨A, B, rfl, ha, hb⟩ := vrs_two hv
    obtain ⟨p, hp, rfl⟩ := vr_obj ha
    split at h
    · rename_i xs hi
      split at h
      · rename_i hl
        cases h
        obtain ⟨fz, led, m, mloc, x⟩ := x
        obtain ⟨Xs, n, h1, h2⟩ := x.list_at hi hp
        refine append_K x.F x.N (upd_of _ h2 x.B.nd) (fun h' F' N' => ?_) (by rw [List.size_toArray, ← h1.length]; exact list_fits hl)
        rw [size_push_eq] at N'
        exact ⟨ρ, pre_refl ρ, x.put_list (tk := s.toks) hp h2 (vrs_append h1 (.cons hb .nil)) F' N', .none⟩
      · cases h
    · cases h
  · cases h
theorem pc_insert : PC cx (.builtin "list.insert") cInsert := by
  intro ρ hid st s x vs Vs hv v st' h
  unfold cInsert at h
  split at h
  · rename_i i k w
    obtain ⟨A, B, C, rfl, ha, hb, hc⟩ := vrs_three hv
    obtain ⟨p, hp, rfl⟩ := vr_obj ha
    obtain ⟨t, rfl⟩ := vr_int hb
    split at h
    · rename_i xs hi
      split at h
      · rename_i hl
        cases h
        obtain ⟨fz, led, m, mloc, x⟩ := x
        obtain ⟨Xs, n, h1, h2⟩ := x.list_at hi hp
        have hlen := h1.length
        have hk : kl_ins Xs.toArray.toList k C = Xs.take k.toNat ++ C :: Xs.drop k.toNat := by
          unfold kl_ins
          have e1 : ¬ k < 0 := by omega
          have e2 : min k.toNat Xs.length = k.toNat := by omega
          simp only [if_neg e1, e2]
        refine kl_insert x.F x.N (by simp [Builtin.List.listFitsIndex]; omega) hk (upd_of _ h2 x.B.nd) (by rw [← hlen]; exact list_fits hl.1) (fun h' F' N' => ?_)
        exact ⟨ρ, pre_refl ρ, x.put_list (tk := s.toks) hp h2 (vrs_append (vrs_take _ h1) (.cons hc (vrs_drop _ h1))) F' N', .none⟩
      · cases h
    · cases h
  · cases h
/-- len -/
def cLen : List V → PM V
  | [.obj i] => fun st => match st.sto[i]? with
    | some (.list xs) => if xs.length ≤ 1000000 then .ok (.int xs.length) st else .fail
    | some (.tuple xs) => if xs.length ≤ 1000000 then .ok (.int xs.length) st else .fail
    | _ => .fail
  | [.str l] => fun st => if l.length ≤ 1000000 then .ok (.int l.length) st else .fail
  | _ => PM.fail
end
end Mine
namespace Mine
theorem okS_append {a b : List Nat} (h : okS a) (h' : okS b) : okS (a ++ b) := fun c hc => (List.mem_append.mp hc).elim (h c) (h' c)
theorem okS_sub {a b : List Nat} (h : okS a) (hs : ∀ c ∈ b, c ∈ a) : okS b := fun c hc => h c (hs c hc)
theorem okS_take {a : List Nat} (k : Nat) (h : okS a) : okS (a.take k) := okS_sub h fun _ hc => List.mem_of_mem_take hc
theorem okS_drop {a : List Nat} (k : Nat) (h : okS a) : okS (a.drop k) := okS_sub h fun _ hc => List.mem_of_mem_drop hc
/-- a value read as data -/
def toDs (f : V → Option PyData) : List V → Option (List PyData)
  | [] => some []
  | v :: r => match f v, toDs f r with
    | some d, some ds => some (d :: ds)
    | _, _ => none
def toD : Nat → List O → V → Option PyData
  | _, _, .none => some .none
  | _, _, .bool b => some (.bool b)
  | _, _, .int i => some (.int i)
  | _, _, .str l => some (.str ⟨l.toArray⟩)
  | n + 1, sto, .obj i => match sto[i]? with
    | some (.list xs) => (toDs (toD n sto) xs).map .list
    | some (.tuple xs) => (toDs (toD n sto) xs).map .tuple
    | _ => none
  | _, _, _ => none
theorem okS_strOk {l : List Nat} (h : okS l) : PyData.strOk ⟨l.toArray⟩ = true := by
  unfold PyData.strOk
  simp only [List.all_toArray, List.all_eq_true, decide_eq_true_eq]
  exact fun c hc => h c hc
section
variable {cx : Cx} {ρ : Map} {hid : Hd} {fz led : Led} {m mloc : Str → Option Value} {st : St} {s : Shared}
theorem toDs_reads {n : Nat} {f : V → Option PyData} {h : Heap} (hf : ∀ v W d, VR ρ v W → f v = some d → ∃ as, Reads h W d as ∧ d.canLay0 = true ∧ d.depth ≤ n) :
    ∀ {vs : List V} {Vs : List Value} {ds : List PyData}, VRs ρ vs Vs → toDs f vs = some ds → ∃ as, ReadsAll h Vs ds as ∧ PyData.canLayAll0 ds = true ∧ PyData.depthAll ds ≤ n
  | _, _, _, .nil, e => by cases e; exact ⟨[], .nil, rfl, Nat.zero_le _⟩
  | _, _, _, .cons x t, e => by
    unfold toDs at e
    split at e
    · rename_i d ds h1 h2
      cases e
      obtain ⟨as, a1, a2, a3⟩ := hf _ _ _ x h1
      obtain ⟨bs, b1, b2, b3⟩ := toDs_reads hf t h2
      exact ⟨_, .cons a1 b1, by simp [PyData.canLayAll0, a2, b2], by simp only [PyData.depthAll]; omega⟩
    · cases e
theorem toD_reads (x : RelD cx ρ hid fz led m mloc st s) : ∀ (n : Nat) (v : V) (W : Value) (d : PyData), VR ρ v W → toD n st.sto v = some d → ∃ as, Reads s.heap W d as ∧ d.canLay0 = true ∧ d.depth ≤ n
  | n, .none, W, d, h, e => by cases vr_none h; cases n <;> cases e <;> exact ⟨_, .none, rfl, Nat.zero_le _⟩
  | n, .bool b, W, d, h, e => by cases vr_bool h; cases n <;> cases e <;> exact ⟨_, .bool b, rfl, Nat.zero_le _⟩
  | n, .int i, W, d, h, e => by obtain ⟨t, rfl⟩ := vr_int h; cases n <;> cases e <;> exact ⟨_, .int i t, rfl, Nat.zero_le _⟩
  | n, .str l, W, d, h, e => by
    have ho := vr_ok h
    obtain ⟨t, rfl⟩ := vr_str h
    cases n <;> cases e <;> exact ⟨_, .str _ t, okS_strOk ho, Nat.zero_le _⟩
  | n, .byt _, W, d, h, e => by cases n <;> cases e
  | n, .glob _, W, d, h, e => by cases n <;> cases e
  | 0, .obj i, W, d, h, e => by cases e
  | n + 1, .obj i, W, d, h, e => by
    obtain ⟨p, hp, rfl⟩ := vr_obj h
    unfold toD at e
    split at e
    · rename_i xs hi
      obtain ⟨ds, h1, rfl⟩ := Option.map_eq_some_iff.mp e
      obtain ⟨Xs, k, g1, g2⟩ := x.list_at hi hp
      obtain ⟨as, a1, a2, a3⟩ := toDs_reads (fun v W d => toD_reads x n v W d) g1 h1
      exact ⟨_, .list (x.N _ g2).1 rfl rfl a1, a2, by simp only [PyData.depth]; omega⟩
    · rename_i xs hi
      obtain ⟨ds, h1, rfl⟩ := Option.map_eq_some_iff.mp e
      obtain ⟨Xs, k, g1, g2⟩ := x.tuple_at hi hp
      obtain ⟨as, a1, a2, a3⟩ := toDs_reads (fun v W d => toD_reads x n v W d) g1 h1
      exact ⟨_, .tuple (x.N _ g2).1 rfl rfl a1, a2, by simp only [PyData.depth]; omega⟩
    · cases e
end
def eqP (st : St) (a b : V) : Option Bool := match toD 4 st.sto a, toD 4 st.sto b with
  | some x, some y => some (PyData.eqv x y)
  | _, _ => none
def pEq (a b : V) : PM V := fun st => match eqP st a b with | some c => .ok (.bool c) st | none => .fail
def pNe (a b : V) : PM V := fun st => match eqP st a b with | some c => .ok (.bool (!c)) st | none => .fail
/-- is the first a piece of the second -/
def subIn (y x : List Nat) : Bool := (List.range (x.length + 1)).any fun i => (x.drop i).take y.length == y
def inP (st : St) (a c : V) : Option Bool := match c with
  | .obj j => match st.sto[j]? with
    | some (.list xs) => match toDs (toD 4 st.sto) xs, toD 4 st.sto a with
      | some ds, some d => some (ds.any fun y => PyData.eqv y d)
      | _, _ => none
    | _ => none
  | .str l => match a with
    | .str k => some (subIn k l)
    | _ => none
  | _ => none
def pIn (a b : V) : PM V := fun st => match inP st a b with | some c => .ok (.bool c) st | none => .fail
def pNotIn (a b : V) : PM V := fun st => match inP st a b with | some c => .ok (.bool (!c)) st | none => .fail
section
variable {cx : Cx}
theorem p_eq (ok : cx.Ok) : P2 cx (compareOp .Eq) pEq VR := by
  intro ρ hid st s x a A b B ha hb v st' h
  unfold pEq eqP at h
  split at h
  · rename_i c e
    split at e
    · rename_i d d' h1 h2
      cases h; cases e
      obtain ⟨fz, led, m, mloc, x'⟩ := id x
      obtain ⟨as, a1, a2, a3⟩ := toD_reads x' 4 a A d ha h1
      obtain ⟨bs, b1, b2, b3⟩ := toD_reads x' 4 b B d' hb h2
      have hu := ok.units
      exact SeqAt.compareEq_reads a1 b1 a2 b2 (by omega) (fin_same x (.bool _))
    · cases e
  · cases h
theorem p_ne (ok : cx.Ok) : P2 cx (compareOp .NotEq) pNe VR := by
  intro ρ hid st s x a A b B ha hb v st' h
  unfold pNe eqP at h
  split at h
  · rename_i c e
    split at e
    · rename_i d d' h1 h2
      cases h; cases e
      obtain ⟨fz, led, m, mloc, x'⟩ := id x
      obtain ⟨as, a1, a2, a3⟩ := toD_reads x' 4 a A d ha h1
      obtain ⟨bs, b1, b2, b3⟩ := toD_reads x' 4 b B d' hb h2
      have hu := ok.units
      refine ne_dataH a1 b1 ?_ ?_ (by omega) (fin_same x (.bool _))
      · unfold SeqAt.shaped; rw [a2, Bool.true_and]; exact decide_eq_true (by omega)
      · unfold SeqAt.shaped; rw [b2, Bool.true_and]; exact decide_eq_true (by omega)
    · cases e
  · cases h
theorem fits63 {n : Nat} (h : n ≤ 1000000) : (n : Int) < 2 ^ 63 := by omega
/-- truth -/
def pTruthy : V → PM Bool
  | .none => PM.pure false
  | .bool b => PM.pure b
  | .int i => PM.pure (i != 0)
  | .str l => fun st => if l.length ≤ 1000000 then .ok (!l.isEmpty) st else .fail
  | .obj i => fun st => match st.sto[i]? with
    | some (.list xs) => if xs.length ≤ 1000000 then .ok (!xs.isEmpty) st else .fail
    | some (.tuple xs) => if xs.length ≤ 1000000 then .ok (!xs.isEmpty) st else .fail
    | _ => .fail
  | _ => PM.fail
theorem vrs_empty {ρ : Map} {xs : List V} {Xs : List Value} (h : VRs ρ xs Xs) : Xs.toArray.isEmpty = xs.isEmpty := by cases h <;> simp
theorem p_truthy : P1 cx truthy pTruthy BR := by
  intro ρ hid st s x a A ha v st' h
  unfold pTruthy at h
  split at h
  · cases vr_none ha; cases h; exact PyProof.Rows.truthy_none (fin_same x rfl)
  · cases vr_bool ha; cases h; exact wpAny_truthy_bool (fin_same x rfl)
  · obtain ⟨t, rfl⟩ := vr_int ha; cases h; exact PyProof.Rows.truthy_int (fin_same x rfl)
  · obtain ⟨t, rfl⟩ := vr_str ha
    split at h
    · rename_i l hl
      cases h
      refine lf x.pos (PySem.W.KXt.truthy (b := !l.isEmpty) ?_ (by rw [str_len]; omega) fun k htk => ⟨ρ, pre_refl ρ, x.toks k htk, rfl⟩)
      rw [str_len]
      cases l <;> simp
      omega
    · cases h
  · rename_i i
    obtain ⟨p, hp, rfl⟩ := vr_obj ha
    obtain ⟨fz, led, m, mloc, x'⟩ := id x
    split at h
    · rename_i xs hi
      split at h
      · rename_i hl
        cases h
        obtain ⟨Xs, k, g1, g2⟩ := x'.list_at hi hp
        refine wpAny_truthy_list ⟨_, (x'.N _ g2).1, rfl, _, rfl⟩ (by rw [List.size_toArray, ← g1.length]; exact fits63 hl) ?_
        rw [vrs_empty g1]
        exact ⟨ρ, pre_refl ρ, x.toks _, rfl⟩
      · cases h
    · rename_i xs hi
      split at h
      · rename_i hl
        cases h
        obtain ⟨Xs, k, g1, g2⟩ := x'.tuple_at hi hp
        refine PyProof.Rows.truthy_tuple ⟨_, (x'.N _ g2).1, rfl, _, rfl⟩ (by rw [List.size_toArray, ← g1.length]; exact fits63 hl) ?_
        rw [vrs_empty g1]
        exact ⟨ρ, pre_refl ρ, x.toks _, rfl⟩
      · cases h
    · cases h
  · cases h
end
end Mine
namespace Mine
/-- attributes of instances -/
def putA (n : String) (v : V) : List (String × V) → List (String × V)
  | [] => [(n, v)]
  | a :: r => if a.1 = n then (n, v) :: r else a :: putA n v r
theorem isStr_key {e : DictEntry} {a n : String} {t : Tok} (h : e.key = .str (Str.ofString a) t) : e.key.isStr (Str.ofString n) = decide (a = n) := by
  rw [h]
  show (Str.ofString a == Str.ofString n) = decide (a = n)
  by_cases q : a = n
  · subst q; simp
  · rw [decide_eq_false q]
    rw [beq_eq_false_iff_ne]
    exact fun e => q (ofString_inj e)
theorem ar_get {ρ : Map} {n : String} {w : V} : ∀ {as : List (String × V)} {Es : List DictEntry}, Paired (AR ρ) as Es → as.lookup n = some w → ∃ e ∈ Es, Es.find? (·.key.isStr (Str.ofString n)) = some e ∧ VR ρ w e.val
  | _, _, .cons (a := a) (b := e) x t, h => by
    obtain ⟨⟨tk, hk⟩, hv⟩ := x
    rw [List.find?_cons, isStr_key hk]
    by_cases q : a.1 = n
    · rw [decide_eq_true q]
      rw [List.lookup_cons, beq_iff_eq.mpr q.symm] at h
      cases h
      exact ⟨e, .head _, rfl, hv⟩
    · rw [decide_eq_false q]
      rw [List.lookup_cons, beq_eq_false_iff_ne.mpr (Ne.symm q)] at h
      obtain ⟨e', h1, h2, h3⟩ := ar_get t h
      exact ⟨e', .tail _ h1, h2, h3⟩
theorem ar_noref {ρ : Map} : ∀ {as : List (String × V)} {Es : List DictEntry}, Paired (AR ρ) as Es → Es.any (·.refKey) = false
  | _, _, .nil => rfl
  | _, _, .cons x t => by
    obtain ⟨⟨tk, hk⟩, hv⟩ := x
    rw [List.any_cons, ar_noref t, Bool.or_false]
    unfold DictEntry.refKey
    rw [hk]
theorem ar_none {ρ : Map} {n : String} : ∀ {as : List (String × V)} {Es : List DictEntry}, Paired (AR ρ) as Es → as.lookup n = none → Es.find? (·.key.isStr (Str.ofString n)) = none
  | _, _, .nil, _ => rfl
  | _, _, .cons (a := a) (b := e) x t, h => by
    obtain ⟨⟨tk, hk⟩, hv⟩ := x
    rw [List.find?_cons, isStr_key hk]
    by_cases q : a.1 = n
    · rw [List.lookup_cons, beq_iff_eq.mpr q.symm] at h; cases h
    · rw [decide_eq_false q]
      rw [List.lookup_cons, beq_eq_false_iff_ne.mpr (Ne.symm q)] at h
      exact ar_none t h
theorem ar_put {ρ : Map} {n : String} {v : V} {W : Value} {hs : Int} {tk : Tok} (hv : VR ρ v W) : ∀ {as : List (String × V)} {Es : List DictEntry}, Paired (AR ρ) as Es → Paired (AR ρ) (putA n v as) (putL (Str.ofString n) hs (.str (Str.ofString n) tk) W Es)
  | _, _, .nil => .cons ⟨⟨tk, rfl⟩, hv⟩ .nil
  | _, _, .cons (a := a) (b := e) x t => by
    obtain ⟨⟨tk', hk⟩, hv'⟩ := id x
    unfold putA putL
    rw [isStr_key hk]
    by_cases q : a.1 = n
    · rw [decide_eq_true q, if_pos q, if_pos rfl]
      exact .cons ⟨⟨tk', by rw [hk, q]⟩, hv⟩ t
    · rw [decide_eq_false q, if_neg q, if_neg (by simp)]
      exact .cons x (ar_put hv t)
theorem putA_len (n : String) (v : V) : ∀ as : List (String × V), (putA n v as).length ≤ as.length + 1
  | [] => by simp [putA]
  | a :: r => by
    unfold putA
    split
    · simp
    · have := putA_len n v r
      simp only [List.length_cons]; omega
/-- what the class says of a name: nothing, or something that an instance's own value hides -/
def okAttr (K : Frag) (C : Addr) (name : Str) : Bool := plainGet K C name && hasDictIn K C && match findIn K (.ref C) name with
  | some none => true
  | some (some a) => (match specialIn K a "__get__" with
      | some none => true
      | some (some _) => takesIn K a == some false
      | none => false)
  | none => false
theorem findObj_hides {K : Frag} {C : Addr} {name : Str} {od : Obj} {v : Value} (h : okAttr K C name = true) (hl : lookIn name od = some (some v)) : findObj K C (some od) name = some (.value v) := by
  unfold okAttr at h
  rw [Bool.and_eq_true, Bool.and_eq_true] at h
  obtain ⟨⟨_, hh⟩, h⟩ := h
  obtain ⟨cd, hc, hd⟩ := any_some hh
  have ho : PySem.W.ownOf cd (some od) name = some (some v) := by unfold PySem.W.ownOf; rw [if_pos hd]; exact hl
  unfold findObj
  rw [hc, Option.bind_some]
  split at h
  · rename_i e; rw [e]; simp [ho]
  · rename_i a e
    rw [e, Option.bind_some]
    split at h
    · rename_i g; simp [g, ho]
    · rename_i g q
      have q' : takesIn K a = some false := beq_iff_eq.mp h
      simp [q, q', ho]
    · cases h
  · cases h
def gAttr (n : String) : V → PM V
  | .obj i => fun st => match st.sto[i]? with
    | some (.inst as) => (match as.lookup n with
      | some (.glob _) => .fail
      | some w => .ok w st
      | none => .fail)
    | _ => .fail
  | _ => PM.fail
def sAttr (n : String) (v : V) : V → PM Unit
  | .obj i => fun st => match st.sto[i]? with
    | some (.inst as) => if as.length ≤ 90 then .ok () { st with sto := st.sto.set i (.inst (putA n v as)) } else .fail
    | _ => .fail
  | _ => PM.fail
theorem handed_vr {ρ : Map} {w : V} {W : Value} (h : VR ρ w W) (hg : ∀ u, w ≠ .glob u) : handedIn W = true := by
  cases h with
  | glob _ => exact absurd rfl (hg _)
  | _ => rfl
section
variable {cx : Cx}
theorem inst_at {ρ : Map} {hid : Hd} {fz led : Led} {m mloc : Str → Option Value} {st : St} {s : Shared} (x : RelD cx ρ hid fz led m mloc st s) {i : Nat} {as : List (String × V)} {p : Addr × Addr} (hi : st.sto[i]? = some (.inst as)) (hp : ρ[i]? = some p) :
    ∃ Es n, Paired (AR ρ) as Es ∧ Es.length ≤ 100 ∧ (p.1, instObj cx.C p.2) ∈ led ∧ (p.2, dictOf Es n) ∈ led ∧ InstAt s.heap p.1 (instObj cx.C p.2) cx.C (some (dictOf Es n)) := by
  obtain ⟨Es, n, h1, h2, h3, h4⟩ := x.B.obj i _ p hi hp
  exact ⟨Es, n, h1, h2, h3, h4, InstAt.of_news x.N h3 h4⟩
theorem get_attr (ok : cx.Ok) {n : String} (hc : okAttr cx.K cx.C (Str.ofString n) = true) {ρ : Map} {hid : Hd} {st : St} {s : Shared} (x : Rel cx ρ hid st s) {a : V} {A : Value} (ha : VR ρ a A) {v : V} {st' : St} (h : gAttr n a st = .ok v st') {expr : Bool} {Ar : Around}
    {Q : Value → Shared → Prop} {E : Value → Shared → Prop} (k : ∀ W s', VR ρ v W → Rel cx ρ hid st' s' → Q W s') : wpAny cx.M Ar (getAttr A (Str.ofString n) expr) Q E s := by
  unfold gAttr at h
  split at h
  · rename_i i
    obtain ⟨p, hp, rfl⟩ := vr_obj ha
    split at h
    · rename_i as hi
      split at h
      · cases h
      · rename_i w hg hl
        cases h
        obtain ⟨fz, led, m, mloc, x'⟩ := id x
        obtain ⟨Es, n', h1, h2, h3, h4, I⟩ := inst_at x' hi hp
        obtain ⟨e, _, g1, g2⟩ := ar_get h1 hl
        have pg : plainGet cx.K cx.C (Str.ofString n) = true := by
          unfold okAttr at hc; rw [Bool.and_eq_true, Bool.and_eq_true] at hc; exact hc.1.1
        refine get_value (ok.kin.keeps x'.F.keep) I (plainGet_of pg).1 (findObj_hides hc ?_) (handed_vr g2 fun u e => hg u e) (k _ _ g2 (x.toks _))
        rw [lookIn_dict]
        show (match Es.find? (·.key.isStr (Str.ofString n)) with | some e => some (some e.val) | none => _) = _
        rw [g1]
      · cases h
    · cases h
  · cases h
theorem sim_Attribute {e : Expr} {n : String} {pos : Pos} {ma : PM V} (ok : cx.Ok) (h1 : SimV cx (eval e cx.env) ma) (hc : okAttr cx.K cx.C (Str.ofString n) = true)
    (he : eval (.Attribute e (Str.ofString n) pos) cx.env = (do
      let o ← eval e cx.env
      standAt pos.atName
      let r ← holding [o] (getAttr o (Str.ofString n) true)
      letTemporaryGo e o r
      pure r) := by with_unfolding_all rfl) : SimV cx (eval (.Attribute e (Str.ofString n) pos) cx.env) (PM.bind ma (gAttr n)) := by
  intro ρ hid st s x v st' h
  obtain ⟨a, st1, e1, h⟩ := bind_ok h
  refine Attribute_any_ (wp_seq (h1 ρ hid st s x a st1 e1) fun A s1 ρ1 p1 r1 v1 => ?_) he
  exact get_attr ok hc r1 v1 h fun W s' hw hr => ⟨ρ1, p1, hr, hw⟩
def okSet (K : Frag) (C : Addr) (name : Str) : Bool := (findIn K (.ref C) "__setattr__" == some (some (.builtin "object.__setattr__"))) && plainOver K C && (takerIn K C name == some none) && hasDictIn K C
theorem set_attr (ok : cx.Ok) {n : String} (hc : okSet cx.K cx.C (Str.ofString n) = true) {ρ : Map} {hid : Hd} {st : St} {s : Shared} (x : Rel cx ρ hid st s) {a : V} {A : Value} (ha : VR ρ a A) {w : V} {W : Value} (hw : VR ρ w W) {st' : St} (h : sAttr n w a st = .ok () st') {Ar : Around}
    {Q : Unit → Shared → Prop} {E : Value → Shared → Prop} (k : ∀ s', Rel cx ρ hid st' s' → Q () s') : wpAny cx.M Ar (setAttr A (Str.ofString n) W) Q E s := by
  unfold sAttr at h
  split at h
  · rename_i i
    obtain ⟨p, hp, rfl⟩ := vr_obj ha
    split at h
    · rename_i as hi
      split at h
      · rename_i hlen
        cases h
        obtain ⟨fz, led, m, mloc, x'⟩ := id x
        obtain ⟨Es, n', h1, h2, h3, h4, I⟩ := inst_at x' hi hp
        unfold okSet at hc
        rw [Bool.and_eq_true, Bool.and_eq_true, Bool.and_eq_true] at hc
        obtain ⟨⟨⟨c1, c2⟩, c3⟩, c4⟩ := hc
        have hgl : (PySem.W.getL (Str.ofString n) Es).isSome = true := by
          unfold PySem.W.getL
          cases q : Es.find? (·.key.isStr (Str.ofString n)) with
          | some e => rfl
          | none => rw [ar_noref h1]; rfl
        have hp2 := ar_put (n := n) (hs := PyData.keyHash cx.w.params (Str.ofString n)) (tk := s.toks + 1) hw h1
        have hl2 : (putL (Str.ofString n) (PyData.keyHash cx.w.params (Str.ofString n)) (.str (Str.ofString n) (s.toks + 1)) W Es).length ≤ 100 := by
          rw [← hp2.length]
          have := putA_len n w as
          omega
        refine set_dict x'.F ok.kin x'.N I rfl (beq_iff_eq.mp c1) c2 (beq_iff_eq.mp c3) c4 hgl rfl (upd_of _ h4 x'.B.nd) (by omega) fun h' F' N' => k _ ?_
        refine RelD.rel (x'.go F' N' (x'.B.upd hp (.inr rfl) ⟨_, _, hp2, hl2, ?_, mem_updL_self h4⟩))
        refine mem_updL_ne h3 fun e => ?_
        have : instObj cx.C p.2 = dictOf Es n' := nodup_mem x'.B.nd (e ▸ h3 : (p.2, _) ∈ led) h4
        cases this
      · cases h
    · cases h
  · cases h
theorem sim_AssignAttr (ok : cx.Ok) {o e : Expr} {n : String} {pos' pos : Pos} {mo me : PM V} (h1 : SimV cx (eval e cx.env) me) (h2 : SimV cx (eval o cx.env) mo) (hc : okSet cx.K cx.C (Str.ofString n) = true)
    (hs : swapsWith e (some (.Attribute o (Str.ofString n) pos')) pos.line cx.env = pure false) :
    SimS cx (.Assign [.Attribute o (Str.ofString n) pos'] e pos) (PM.bind me fun v => PM.bind mo fun a => PM.bind (sAttr n v a) fun _ => PM.pure .next) := by
  intro ρ hid st s x v st' h
  obtain ⟨w, st1, e1, h⟩ := bind_ok h
  obtain ⟨a, st2, e2, h⟩ := bind_ok h
  obtain ⟨u, st3, e3, h⟩ := bind_ok h
  cases h
  refine plainObj_wpAny_Assign_Attribute (wp_seq (h1 ρ hid st s x w st1 e1) fun W s1 ρ1 p1 r1 v1 => wp_seq (h2 ρ1 hid st1 s1 r1 a st2 e2) fun A s2 ρ2 p2 r2 v2 => ?_) hs
  exact set_attr ok hc r2 v2 (v1.mono p2) e3 fun s' hr => ⟨ρ2, pre_trans p1 p2, hr, .next⟩
end
end Mine
namespace Mine
/-- the context of a called def -/
abbrev Cx.inn (cx : Cx) (g : Heap) (L' : Addr) (env' : Env) (k : Nat) : Cx := { cx with h₀ := g, L := L', A := cx.A.deeper env', fenv := env', env := env', outer := cx.fenv :: cx.outer, n := k, fzn := false }
theorem cellsFrom_addr : ∀ (names : List (Str × NameKind)) (n : Nat) (acc : List (Str × Addr)), (∀ x ∈ acc, x.2 < n) → (acc.map (·.2)).Nodup →
    ((cellsFrom n names acc).map (·.2)).Nodup ∧ ∀ x ∈ cellsFrom n names acc, x ∈ acc ∨ n ≤ x.2
  | [], n, acc, _, h => ⟨h, fun x hx => .inl hx⟩
  | (y, k) :: r, n, acc, h1, h2 => by
    unfold cellsFrom
    split
    · have := cellsFrom_addr r (n + 1) ((y, n) :: acc) (fun x hx => by
        rcases List.mem_cons.mp hx with rfl | hx
        · exact Nat.lt_succ_self _
        · exact Nat.lt_succ_of_lt (h1 x hx)) (by
        rw [List.map_cons, List.nodup_cons]
        refine ⟨fun hm => ?_, h2⟩
        obtain ⟨x, hx, e⟩ := List.mem_map.mp hm
        exact absurd (h1 x hx) (by rw [e]; exact Nat.lt_irrefl _))
      refine ⟨this.1, fun x hx => ?_⟩
      rcases this.2 x hx with h | h
      · rcases List.mem_cons.mp h with rfl | h
        · exact .inr (Nat.le_refl _)
        · exact .inl h
      · exact .inr (Nat.le_of_succ_le h)
    · exact cellsFrom_addr r n acc h1 h2
theorem cellsAre_fst {cm : Str → Option Value} : ∀ {cs : List (Str × Addr)} {cells : Led}, CellsAre cm cs cells → cells.map (·.1) = cs.map (·.2)
  | _, _, .nil => rfl
  | _, _, .cons _ r => by simp [cellsAre_fst r]
theorem cellsAre_get {cm : Str → Option Value} : ∀ {cs : List (Str × Addr)} {cells : Led}, CellsAre cm cs cells → ∀ {x : Str} {c : Addr}, cs.lookup x = some c → ∃ o, (c, o) ∈ cells ∧ o.data = .cell (cm x)
  | _, _, .cons (n := n) (c := c') (o := o) h r, x, c, e => by
    rw [List.lookup_cons] at e
    cases q : x == n with
    | true =>
      rw [q] at e
      cases e
      rw [beq_iff_eq] at q
      subst q
      exact ⟨o, .head _, h⟩
    | false =>
      rw [q] at e
      obtain ⟨o', h1, h2⟩ := cellsAre_get r e
      exact ⟨o', .tail _ h1, h2⟩
theorem bindL_other {kf : Str → Option NameKind} {x : Str} : ∀ (bs : List (Str × Value)) (m : Str → Option Value), (∀ b ∈ bs, b.1 ≠ x) → bindL kf bs m x = m x
  | [], _, _ => rfl
  | (n, v) :: r, m, h => by
    unfold bindL
    rw [bindL_other r _ fun b hb => h b (.tail _ hb)]
    have hn : x ≠ n := Ne.symm (h (n, v) (.head _))
    split
    · exact if_neg hn
    · rfl
theorem bindC_other {kf : Str → Option NameKind} {x : Str} : ∀ (bs : List (Str × Value)) (m : Str → Option Value), (∀ b ∈ bs, b.1 ≠ x) → bindC kf bs m x = m x
  | [], _, _ => rfl
  | (n, v) :: r, m, h => by
    unfold bindC
    rw [bindC_other r _ fun b hb => h b (.tail _ hb)]
    have hn : x ≠ n := Ne.symm (h (n, v) (.head _))
    split
    · rfl
    · exact if_neg hn
theorem zip_fst {ps : List String} {Vs : List Value} {x : Str} (h : ∀ p ∈ ps, Str.ofString p ≠ x) : ∀ b ∈ (ps.map Str.ofString).zip Vs, b.1 ≠ x := fun b hb => by
  have := (List.of_mem_zip (a := b.1) (b := b.2) hb).1
  obtain ⟨p, hp, e⟩ := List.mem_map.mp this
  rw [← e]; exact h p hp
theorem bind_get {ρ : Map} {kf : Str → Option NameKind} {n : String} {v : V} : ∀ {ps : List String} {vs : List V} {Vs : List Value} (m cm : Str → Option Value), ps.Nodup → VRs ρ vs Vs → (ps.zip vs).lookup n = some v →
    ∃ W, VR ρ v W ∧ (kf (Str.ofString n) = some .local → bindL kf ((ps.map Str.ofString).zip Vs) m (Str.ofString n) = some W) ∧ (kf (Str.ofString n) ≠ some .local → bindC kf ((ps.map Str.ofString).zip Vs) cm (Str.ofString n) = some W)
  | [], _, _, _, _, _, _, h => by simp at h
  | p :: ps, _, _, _, _, _, .nil, h => by simp at h
  | p :: ps, _, _, m, cm, hnd, .cons (a := a) (b := b) x t, h => by
    rw [List.nodup_cons] at hnd
    rw [List.zip_cons_cons, List.lookup_cons] at h
    rw [List.map_cons, List.zip_cons_cons]
    by_cases q : n = p
    · subst q
      rw [beq_self_eq_true] at h
      cases h
      have hne : ∀ r ∈ ps, Str.ofString r ≠ Str.ofString n := fun r hr e => hnd.1 (ofString_inj e ▸ hr)
      refine ⟨b, x, fun hk => ?_, fun hk => ?_⟩
      · unfold bindL
        rw [bindL_other _ _ (zip_fst hne), if_pos hk, if_pos rfl]
      · unfold bindC
        rw [bindC_other _ _ (zip_fst hne), if_neg hk, if_pos rfl]
    · rw [beq_eq_false_iff_ne.mpr q] at h
      obtain ⟨W, h1, h2, h3⟩ := bind_get (kf := kf) (if kf (Str.ofString p) = some .local then fun y => if y = Str.ofString p then some b else m y else m) (if kf (Str.ofString p) = some .local then cm else fun y => if y = Str.ofString p then some b else cm y) hnd.2 t h
      exact ⟨W, h1, h2, h3⟩
/-- a def called: its parameters, its body -/
def callP (ps : List String) (mb : PM Fl) : List V → PM V := fun vs st => if vs.length = ps.length then
    (match mb ⟨fun n => (ps.zip vs).lookup n, st.sto⟩ with
      | .ok fl st' => .ok (match fl with | .ret v => v | _ => .none) ⟨st.loc, st'.sto⟩
      | .exc e st' => .exc e ⟨st.loc, st'.sto⟩
      | .fail => .fail)
  else .fail
open Classical in
noncomputable def hidOf (ρ : Map) (fz led : Led) : Hd := ⟨led.filter fun q => decide ((∀ p ∈ ρ, q.1 ≠ p.1 ∧ q.1 ≠ p.2) ∧ ∀ r ∈ fz, r.1 ≠ q.1), fz⟩
theorem mem_hidOf {ρ : Map} {fz led : Led} {q : Addr × Obj} : q ∈ (hidOf ρ fz led).h ↔ q ∈ led ∧ (∀ p ∈ ρ, q.1 ≠ p.1 ∧ q.1 ≠ p.2) ∧ ∀ r ∈ fz, r.1 ≠ q.1 := by
  unfold hidOf
  simp only [List.mem_filter, decide_eq_true_eq]
section
variable {cx : Cx}
theorem inn_ok (ok : cx.Ok) {k : Nat} (hd : cx.A.depth + 4 * k + 5 < recursionLimit) (hu : cx.A.units + 40 * k + 203 < cLine) {qual : Str} {scope : Scope} {f : Addr} {cdv : Value} {g : Heap} {L' : Addr} (hk : scope.kind = .function) (st : cx.h₀.StaysIn g) (B : Below cx.A cx.base (cx.fenv :: cx.outer) g) :
    (cx.inn g L' (envOfC qual scope L' f cdv) k).Ok where
  bmain := ok.bmain.keeps st
  kin := ok.kin.keeps st
  top := ok.top.keeps st
  below := ⟨cx.A, B⟩
  frames := Around.frames_deeper ok.frames
  fframe := rfl
  fkind := hk
  kind := hk
  globals := rfl
  builtins := rfl
  handled := ok.handled
  depth := by show cx.A.depth + 1 + 4 * k + 4 < recursionLimit; omega
  units := by show cx.A.units + 3 + 40 * k + 200 < cLine; omega
  cinj := by
    intro x y c hx hy
    have h := (cellsFrom_addr scope.names (L' + 1) [] (fun _ h => nomatch h) .nil).1
    have hm : ∀ {l : List (Str × Addr)} {x : Str} {c : Addr}, l.lookup x = some c → (x, c) ∈ l := by
      intro l
      induction l with
      | nil => intro x c e; cases e
      | cons a r ih =>
        intro x c e
        rw [List.lookup_cons] at e
        cases q : x == a.1 with
        | true => rw [q] at e; cases e; rw [beq_iff_eq] at q; rw [q]; exact .head _
        | false => rw [q] at e; exact .tail _ (ih e)
    have h1 := hm (l := cellsFrom (L' + 1) scope.names []) hx
    have h2 := hm (l := cellsFrom (L' + 1) scope.names []) hy
    generalize cellsFrom (L' + 1) scope.names [] = l at h h1 h2
    induction l with
    | nil => cases h1
    | cons a r ih =>
      rw [List.map_cons, List.nodup_cons] at h
      rcases List.mem_cons.mp h1 with e | e <;> rcases List.mem_cons.mp h2 with e' | e'
      · exact (Prod.mk.inj (e.trans e'.symm)).1
      · exact absurd (List.mem_map_of_mem (f := (·.2)) e') (by rw [← e] at h; exact h.1)
      · exact absurd (List.mem_map_of_mem (f := (·.2)) e) (by rw [← e'] at h; exact h.1)
      · exact ih h.2 e e'
/-- the called def's first state -/
theorem bear_inn {ρ : Map} {hid : Hd} {fz led cells : Led} {m mloc : Str → Option Value} {st : St} (B : Bear cx ρ hid fz led m mloc st) {k : Nat} {qual : Str} {scope : Scope} {f : Addr} {cdv : Value} {g : Heap} {L' : Addr} {ps : List String} {vs : List V} {Vs : List Value}
    (hlt : ∀ p ∈ led, p.1 < L') (hv : VRs ρ vs Vs) (hps : ps.Nodup)
    (hkind : ∀ p ∈ ps, scope.names.lookup (Str.ofString p) = some .local ∨ scope.names.lookup (Str.ofString p) = some .cell)
    (C : CellsAre (bindC (envOfC qual scope L' f cdv).kindOf ((ps.map Str.ofString).zip Vs) fun _ => none) (cellsFrom (L' + 1) scope.names []) cells) :
    Bear (cx.inn g L' (envOfC qual scope L' f cdv) k) ρ (hidOf ρ fz led) fz (cells ++ led) (bindL (envOfC qual scope L' f cdv).kindOf ((ps.map Str.ofString).zip Vs) fun _ => none)
      (bindL (envOfC qual scope L' f cdv).kindOf ((ps.map Str.ofString).zip Vs) fun _ => none) ⟨fun n => (ps.zip vs).lookup n, st.sto⟩ := by
  have ca := cellsFrom_addr scope.names (L' + 1) [] (fun _ h => nomatch h) .nil
  have cf := cellsAre_fst C
  have cgt : ∀ q ∈ cells, L' < q.1 := fun q hq => by
    have : q.1 ∈ cells.map (·.1) := List.mem_map_of_mem hq
    rw [cf] at this
    obtain ⟨x, hx, e⟩ := List.mem_map.mp this
    rcases ca.2 x hx with h | h
    · cases h
    · rw [← e]; exact h
  have cmem : ∀ {x : Str} {c : Addr}, (envOfC qual scope L' f cdv).cells.lookup x = some c → L' < c := fun {x c} h => by
    obtain ⟨o, h1, _⟩ := cellsAre_get C h
    exact cgt _ h1
  have olt : ∀ p ∈ ρ, p.1 < L' ∧ p.2 < L' := fun p hp => by
    have := B.own p hp
    obtain ⟨q, hq, e⟩ := List.mem_map.mp this.1
    obtain ⟨q', hq', e'⟩ := List.mem_map.mp this.2
    exact ⟨e ▸ hlt q hq, e' ▸ hlt q' hq'⟩
  refine ⟨?_, fun h => absurd rfl h, .inl ⟨rfl, rfl⟩, B.len, fun p hp => ?_, fun i o p h1 h2 => ?_, B.sep, fun q hq => ?_, fun q hq => (mem_hidOf.mp hq).2.1, fun x c hc => ?_, fun x c hc => ⟨fun q hq => ?_, fun p hp => ?_⟩, fun q hq => List.mem_append_right _ (B.fin q hq), fun q hq => hq, fun q hq => (mem_hidOf.mp hq).2.2, B.fsep, fun _ q hq x hx hc => ?_, fun n v hn => ?_⟩
  · rw [List.map_append]
    refine List.nodup_append.mpr ⟨by rw [cf]; exact ca.1, B.nd, fun a ha b hb e => ?_⟩
    obtain ⟨q, hq, rfl⟩ := List.mem_map.mp ha
    obtain ⟨r, hr, rfl⟩ := List.mem_map.mp hb
    have h1 := cgt q hq
    have h2 := hlt r hr
    rw [← e] at h2
    exact absurd h1 (Nat.lt_asymm h2)
  · rw [List.map_append]
    exact ⟨List.mem_append_right _ (B.own p hp).1, List.mem_append_right _ (B.own p hp).2⟩
  · exact (B.obj i o p h1 h2).mono (pre_refl _) (fun _ h => h) fun _ _ h _ => List.mem_append_right _ h
  · exact List.mem_append_right _ (mem_hidOf.mp hq).1
  · obtain ⟨o, h1, h2⟩ := cellsAre_get C hc
    exact ⟨o, _, List.mem_append_left _ h1, h2⟩
  · exact Nat.ne_of_lt (Nat.lt_trans (hlt q (mem_hidOf.mp hq).1) (cmem hc))
  · exact ⟨Nat.ne_of_lt (Nat.lt_trans (olt p hp).1 (cmem hc)), Nat.ne_of_lt (Nat.lt_trans (olt p hp).2 (cmem hc))⟩
  · have h1 := hlt q (B.fin q hq)
    have h2 := cmem hc
    exact absurd h1 (Nat.lt_asymm h2)
  · have hm : n ∈ ps := by
      have : ∀ {l : List (String × V)}, l.lookup n = some v → ∃ w, (n, w) ∈ l := by
        intro l
        induction l with
        | nil => intro e; cases e
        | cons a r ih =>
          intro e
          rw [List.lookup_cons] at e
          cases q : n == a.1 with
          | true => rw [beq_iff_eq] at q; exact ⟨a.2, by rw [q]; exact .head _⟩
          | false => rw [q] at e; obtain ⟨w, hw⟩ := ih e; exact ⟨w, .tail _ hw⟩
      obtain ⟨w, hw⟩ := this hn
      exact (List.of_mem_zip hw).1
    obtain ⟨W, h1, h2, h3⟩ := bind_get (kf := (envOfC qual scope L' f cdv).kindOf) (fun _ => none) (fun _ => none) hps hv hn
    refine ⟨W, h1, ?_⟩
    rcases hkind n hm with q | q
    · exact .inl ⟨q, h2 q⟩
    · refine .inr ⟨.inl q, ?_⟩
      have hs := cellsFrom_some (x := Str.ofString n) scope.names (L' + 1) [] (.inl q)
      obtain ⟨c, hc⟩ := Option.isSome_iff_exists.mp hs
      obtain ⟨o, g1, g2⟩ := cellsAre_get C hc
      exact ⟨c, o, hc, List.mem_append_left _ g1, by rw [g2, h3 (by show scope.names.lookup _ ≠ _; rw [q]; simp)]⟩
/-- back in the caller -/
theorem bear_back {cx' : Cx} {ρ ρ' : Map} {hid : Hd} {fz led fz' led' : Led} {m mloc m' mloc' : Str → Option Value} {st st' : St} (hC : cx'.C = cx.C) (hw : cx'.w = cx.w) (hpr : cx'.prog = cx.prog) (hlam : cx'.lam = cx.lam) (htab : cx'.tab = cx.tab) (B : Bear cx ρ hid fz led m mloc st) (hρ : ρ <+: ρ') (B' : Bear cx' ρ' (hidOf ρ fz led) fz' led' m' mloc' st') :
    Bear cx ρ' hid fz' led' m mloc ⟨st.loc, st'.sto⟩ := by
  have keep : ∀ q ∈ led, (∀ p ∈ ρ, q.1 ≠ p.1 ∧ q.1 ≠ p.2) → q ∈ led' := fun q hq hp => by
    by_cases hf : ∀ r ∈ fz, r.1 ≠ q.1
    · exact B'.hin q (mem_hidOf.mpr ⟨hq, hp, hf⟩)
    · obtain ⟨r, hr'⟩ := Classical.not_forall.mp hf
      obtain ⟨hr, e⟩ := Classical.not_imp.mp hr'
      clear hr'
      have e : r.1 = q.1 := Classical.not_not.mp e
      have : r = q := by
        have h1 := B.fin r hr
        obtain ⟨a, o⟩ := r
        obtain ⟨b, o'⟩ := q
        dsimp only at e
        subst e
        rw [nodup_mem B.nd h1 hq]
      subst this
      exact B'.fin _ (B'.fz0 _ hr)
  have off : ∀ q ∈ led, (∀ p ∈ ρ, q.1 ≠ p.1 ∧ q.1 ≠ p.2) → ∀ p ∈ ρ', q.1 ≠ p.1 ∧ q.1 ≠ p.2 := fun q hq hp => by
    by_cases hf : ∀ r ∈ fz, r.1 ≠ q.1
    · exact B'.hsep q (mem_hidOf.mpr ⟨hq, hp, hf⟩)
    · obtain ⟨r, hr'⟩ := Classical.not_forall.mp hf
      obtain ⟨hr, e⟩ := Classical.not_imp.mp hr'
      clear hr'
      have e : r.1 = q.1 := Classical.not_not.mp e
      intro p hp'
      rw [← e]
      exact B'.fsep r (B'.fz0 _ hr) p hp'
  have cellsOff : ∀ x c o, cx.env.cells.lookup x = some c → (c, o) ∈ led → ∀ p ∈ ρ, c ≠ p.1 ∧ c ≠ p.2 := fun x c o hc _ p hp => ⟨Ne.symm ((B.csep x c hc).2 p hp).1, Ne.symm ((B.csep x c hc).2 p hp).2⟩
  have oat : ∀ {p : Addr × Addr} {o : O}, OAt cx' ρ' fz' led' p o → OAt cx ρ' fz' led' p o := fun {p o} h => by
    cases o with
    | inst as => obtain ⟨Es, n, a, b, c, d⟩ := h; exact ⟨Es, n, a, b, hC ▸ c, d⟩
    | dict es =>
      obtain ⟨o, kvs, a, d, c, b⟩ := h
      refine ⟨o, kvs, a, ?_, c, b⟩
      obtain ⟨prog, w⟩ := cx'
      dsimp only at hw hpr
      subst hw hpr
      exact d
    | clos cs => obtain ⟨fd, a, b⟩ := h; exact ⟨fd, a, hlam ▸ b⟩
    | ctab =>
      obtain ⟨a, b⟩ := h
      rw [hlam, htab] at b
      exact ⟨htab ▸ a, b⟩
    | _ => exact h
  refine ⟨B'.nd, B.cm, ?_, B'.len, B'.own, fun i o p h1 h2 => oat (B'.obj i o p h1 h2), B'.sep, fun q hq => keep q (B.hin q hq) (B.hsep q hq), fun q hq => off q (B.hin q hq) (B.hsep q hq), fun x c hc => ?_, fun x c hc => ⟨(B.csep x c hc).1, ?_⟩, B'.fin, fun q hq => B'.fz0 q (B.fz0 q hq), fun q hq r hr => ?_, B'.fsep, fun hz q hq x hx hc => ?_, fun n v hn => ?_⟩
  · rcases B.ln with h | ⟨g1, o, es, ep, g2, g3, g4, g5, g6, g7, g8, g9⟩
    · exact .inl h
    · have hn : ∀ p ∈ ρ, cx.env.locals ≠ p.1 ∧ cx.env.locals ≠ p.2 := fun p hp => ⟨Ne.symm (g6 p hp).1, Ne.symm (g6 p hp).2⟩
      refine .inr ⟨g1, o, es, ep, keep _ g2 hn, g3, g4, g5, fun p hp => ⟨Ne.symm (off _ g2 hn p hp).1, Ne.symm (off _ g2 hn p hp).2⟩, g7, fun q hq => ?_, g9⟩
      exact B'.hfz (cx.env.locals, o) (mem_hidOf.mpr ⟨g2, hn, fun r hr => g8 r hr⟩) q hq
  · obtain ⟨o, v, h1, h2⟩ := B.cel x c hc
    exact ⟨o, v, keep _ h1 (cellsOff x c o hc h1), h2⟩
  · obtain ⟨o, v, h1, h2⟩ := B.cel x c hc
    exact fun p hp => ⟨Ne.symm (off _ h1 (cellsOff x c o hc h1) p hp).1, Ne.symm (off _ h1 (cellsOff x c o hc h1) p hp).2⟩
  · exact B'.hfz q (mem_hidOf.mpr ⟨B.hin q hq, B.hsep q hq, fun r hr => B.hfz q hq r hr⟩) r hr
  · obtain ⟨o, v, h1, h2⟩ := B.cel x _ hc
    refine B'.hfz (q.1, o) (mem_hidOf.mpr ⟨h1, cellsOff x q.1 o hc h1, fun r hr e => ?_⟩) q hq rfl
    exact B.fcel hz r hr x hx (by rw [e]; exact hc)
  · obtain ⟨W, h1, h2⟩ := B.loc n v hn
    exact ⟨W, h1.mono hρ, h2.mono fun c o hc hm => keep _ hm (cellsOff _ c o hc hm)⟩
/-- the tail of a body, in which the cells are not bound any more -/
abbrev Cx.frz (cx : Cx) : Cx := { cx with fzn := true }
theorem Bear.frz {ρ : Map} {hid : Hd} {fz led : Led} {m mloc : Str → Option Value} {st : St} (B : Bear cx ρ hid fz led m mloc st) : Bear cx.frz ρ hid fz led m mloc st := by
  have oat : ∀ {p : Addr × Addr} {o : O}, OAt cx ρ fz led p o → OAt cx.frz ρ fz led p o := fun {p o} h => by cases o <;> exact h
  exact ⟨B.nd, B.cm, B.ln, B.len, B.own, fun i o p h1 h2 => oat (B.obj i o p h1 h2), B.sep, B.hin, B.hsep, B.cel, B.csep, B.fin, B.fz0, B.hfz, B.fsep, (fun h => by cases h), B.loc⟩
theorem Rel.frz {ρ : Map} {hid : Hd} {st : St} {s : Shared} (x : Rel cx ρ hid st s) : Rel cx.frz ρ hid st s := by
  obtain ⟨fz, led, m, mloc, x⟩ := x
  exact ⟨fz, led, m, mloc, x.F, x.N, x.B.frz, x.gens, x.os, x.tk⟩
theorem frz_ok (ok : cx.Ok) : cx.frz.Ok := ⟨ok.bmain, ok.kin, ok.top, ok.below, ok.frames, ok.fframe, ok.fkind, ok.kind, ok.globals, ok.builtins, ok.handled, ok.depth, ok.units, ok.cinj⟩
/-- a body as a whole -/
def SimBd (cx : Cx) (ss : List Stmt) (m : PM Fl) : Prop := ∀ ρ hid st s, Rel cx ρ hid st s → ∀ f st', m st = .ok f st' →
  wpAny cx.M cx.A (execs ss cx.env) (fun a s' => ∃ ρ', ρ <+: ρ' ∧ Rel cx.frz ρ' hid st' s' ∧ FR ρ' f a) (fun _ _ => False) s
theorem body_of {ss : List Stmt} {m : PM Fl} (h : SimSs cx ss m) : SimBd cx ss m := fun ρ hid st s x f st' e => wp_seq (h ρ hid st s x f st' e) fun a s' ρ' p r v => ⟨ρ', p, r.frz, v⟩
/-- a call of a def, up to its body: the tokens that stand then are not none -/
theorem call_pos {prog : Program} {w : World} {A : Around} {R : Result → Shared → Prop} {s : Shared} {fd : FuncData} {body : List Stmt} {f : Addr} {fo : Obj} {args : Args} {binds : List (Str × Value)} (hpos : 0 < s.toks)
    (hroom : A.depth < recursionLimit) (ho : s.heap.get? f = some fo) (hd : fo.data = .func fd) (hbd : fd.body = .stmts body) (hcl : fd.closure = []) (hgl : fd.globals = mainGlobals) (hbn : fd.builtins = builtinsNs) (hlim : s.heap.NoLimit) (hcd : s.heap.CodeRec fd.code fd.qualname)
    (hbind : BindsTo s fd args binds) (hkind : ∀ n, ∀ x ∈ binds, fd.scope.names.lookup x.1 = some .local ∨ (fd.scope.names.lookup x.1 = some .cell ∧ ((cellsFrom n fd.scope.names []).lookup x.1).isSome = true))
    (hnd : ((cellsFrom 0 fd.scope.names []).map (·.1)).Nodup)
    (h : ∀ h₁ tk cells, 0 < tk → Fr s.heap s.heap.objs.size h₁ (bindL (envOfC fd.qualname fd.scope s.heap.objs.size f fd.code).kindOf binds fun _ => none) → News s.heap s.heap.objs.size h₁ cells →
      CellsAre (bindC (envOfC fd.qualname fd.scope s.heap.objs.size f fd.code).kindOf binds fun _ => none) (cellsFrom (s.heap.objs.size + 1) fd.scope.names []) cells →
      wpAny (model prog w) (A.deeper (envOfC fd.qualname fd.scope s.heap.objs.size f fd.code)) (execs body (envOfC fd.qualname fd.scope s.heap.objs.size f fd.code))
        (fun fl s' => R (.ok (.ret (match fl with | .ret v => v | _ => .none))) s') (fun _ _ => False) { s with heap := h₁, toks := tk })
    (hco : fd.scope.isCoroutine = false) (hgen : fd.scope.isGenerator = false) (hk : fd.scope.kind = .function) : codeAny (model prog w) A (.call (.ref f) args) R s := by
  obtain ⟨name, qualname, params, bd, scope, globals, closure, defaults, kwdefaults, doc, pyModule, annotations, code, closureTuple, builtins⟩ := fd
  dsimp only at *
  subst hbd hcl hgl hbn
  refine codeAny_call_function hroom ho hd hco hgen rfl hcd (hbind _ _ _ _ ?_)
  refine lf hpos (wpAny_newFunctionEnv_cells hk (hkind _) fun env' he s' x htk => ?_)
  subst he
  refine ⟨hlim.keeps x.toInCall.keep, codeAny_func ?_⟩
  obtain ⟨h₁, tk, rfl, _⟩ := x.done
  obtain ⟨cells, NC, Y⟩ := Cl.news (h₀ := s.heap) (Nat.le_refl _) fun n c hm => ⟨x.cell n c (lookup_of_mem_nodup (cellsFrom_names scope.names 0 (s.heap.objs.size + 1) [] [] rfl ▸ hnd) hm), x.above n c hm⟩
  exact wpAny_mono (h h₁ tk cells htk ⟨x.toInCall.ns, x.toInCall.keep, Nat.le_refl _⟩ NC Y) (fun fl s' hl => hl) fun _ _ y => y.elim
theorem code_user (ok : cx.Ok) {k : Nat} (hdp : cx.A.depth + 4 * k + 5 < recursionLimit) (hun : cx.A.units + 40 * k + 203 < cLine) {ps : List String} {mb : PM Fl} {name qual : Str} {params : Arguments} {body : List Stmt} {scope : Scope} {dV kV doc pm cdv ct oc : Value} {an od : Option Addr} {osl : Array (Option Value)} {f : Addr}
    (ho : cx.K.lookup f = some ⟨oc, od, .func (fnOf name qual params body scope dV kV doc pm an cdv ct), osl⟩) (hcd : codeIn cx.K cdv qual = true)
    (hb : ∀ Vs : List Value, Vs.length = ps.length → bindArgs (fnOf name qual params body scope dV kV doc pm an cdv ct) ⟨Vs, []⟩ = pure ((ps.map Str.ofString).zip Vs))
    (hkind : ∀ p ∈ ps, scope.names.lookup (Str.ofString p) = some .local ∨ scope.names.lookup (Str.ofString p) = some .cell) (hps : ps.Nodup) (hnd : ((cellsFrom 0 scope.names []).map (·.1)).Nodup)
    (hco : scope.isCoroutine = false) (hgen : scope.isGenerator = false) (hk : scope.kind = .function)
    (hbody : ∀ g L', (cx.inn g L' (envOfC qual scope L' f cdv) k).Ok → SimBd (cx.inn g L' (envOfC qual scope L' f cdv) k) body mb)
    {ρ : Map} {hid : Hd} {st st' : St} {s : Shared} (x : Rel cx ρ hid st s) {vs : List V} {Vs : List Value} (hv : VRs ρ vs Vs) {v : V} (h : callP ps mb vs st = .ok v st') {R : Result → Shared → Prop}
    (hR : ∀ ρ' W s', ρ <+: ρ' → Rel cx ρ' hid st' s' → VR ρ' v W → R (.ok (.ret W)) s') : codeAny cx.M cx.A (.call (.ref f) ⟨Vs, []⟩) R s := by
  unfold callP at h
  split at h
  · rename_i hlen
    split at h
    · rename_i fl st1 e1
      cases h
      obtain ⟨fz, led, m, mloc, x⟩ := x
      obtain ⟨A₀, hB⟩ := ok.below
      have hVl : Vs.length = ps.length := by rw [← hv.length]; exact hlen
      obtain ⟨FG, B', stays, lv⟩ := groundX (A := cx.A) (R := R) hB x.F x.N ok.frames ok.fframe ok.fkind
      refine call_pos x.tk (by have := ok.depth; omega) (ok.kin.keeps x.F.keep _ _ ho) rfl rfl rfl rfl rfl (ok.top.nolimit.keeps x.F.keep) (codeRec_of (ok.kin.keeps x.F.keep) hcd) (BindsTo.of_eq (hb Vs hVl)) (fun j y hy => ?_) hnd
        (fun h₁ tk cells htk F1 N1 C' => ?_) hco hgen hk
      · have := (List.of_mem_zip (a := y.1) (b := y.2) hy).1
        obtain ⟨p, hp, e⟩ := List.mem_map.mp this
        rw [← e]
        rcases hkind p hp with q | q
        · exact .inl q
        · exact .inr ⟨q, cellsFrom_some scope.names j [] (.inl q)⟩
      · have hlt : ∀ p ∈ led, p.1 < s.heap.objs.size := fun p hp => Heap.lt_size (x.N p hp).1
        have ok' := inn_ok (qual := qual) (f := f) (cdv := cdv) (L' := s.heap.objs.size) ok hdp hun hk stays B'
        have Br := bear_inn (k := k) (g := hideAll s.heap (led.map (·.1))) x.B hlt hv hps hkind C'
        have F' : Fr (hideAll s.heap (led.map (·.1))) s.heap.objs.size h₁ (bindL (envOfC qual scope s.heap.objs.size f cdv).kindOf ((ps.map Str.ofString).zip Vs) fun _ => none) := ⟨F1.ns, fun b o e => F1.keep b o (of_hideAll _ e), Nat.le_of_eq (hideAll_size _ _)⟩
        have N' : News (hideAll s.heap (led.map (·.1))) s.heap.objs.size h₁ (cells ++ led) := fun p hp => by
          rcases List.mem_append.mp hp with hp | hp
          · refine ⟨(N1 p hp).1, (N1 p hp).2.1, ?_⟩
            cases q : (hideAll s.heap (led.map (·.1))).get? p.1 with
            | none => rfl
            | some o => have := of_hideAll _ q; rw [(N1 p hp).2.2] at this; cases this
          · exact ⟨F1.keep _ _ (x.N p hp).1, Nat.ne_of_lt (hlt p hp), hideAll_none _ (List.mem_map_of_mem hp)⟩
        have R' : Rel (cx.inn (hideAll s.heap (led.map (·.1))) s.heap.objs.size (envOfC qual scope s.heap.objs.size f cdv) k) ρ (hidOf ρ fz led) ⟨fun n => (ps.zip vs).lookup n, st.sto⟩ { s with heap := h₁, toks := tk } := ⟨fz, cells ++ led, _, _, F', N', Br, x.gens, x.os, htk⟩
        refine wpAny_mono (hbody _ s.heap.objs.size ok' ρ _ _ _ R' fl st1 e1) (fun fw s' hq => ?_) fun _ _ z => z.elim
        obtain ⟨ρ', hρ, ⟨fz', led', m', mloc', r'⟩, hfl⟩ := hq
        refine lv _ _ (leaveK_ r'.F r'.N fun F'' N'' => ?_)
        refine hR ρ' _ s' hρ ⟨fz', led', m, mloc, F'', N'', bear_back (cx' := (cx.inn (hideAll s.heap (led.map (·.1))) s.heap.objs.size (envOfC qual scope s.heap.objs.size f cdv) k).frz) rfl rfl rfl rfl rfl x.B hρ r'.B, r'.gens, r'.os, r'.tk⟩ ?_
        cases hfl with
        | ret hv => exact hv
        | _ => exact .none
    · cases h
    · cases h
  · cases h
/-- another place around -/
abbrev Cx.at (cx : Cx) (A' : Around) : Cx := { cx with A := A', n := 0 }
theorem Bear.chA {A' : Around} {n' : Nat} {ρ : Map} {hid : Hd} {fz led : Led} {m mloc : Str → Option Value} {st : St} (B : Bear cx ρ hid fz led m mloc st) : Bear { cx with A := A', n := n' } ρ hid fz led m mloc st := by
  have oat : ∀ {p : Addr × Addr} {o : O}, OAt cx ρ fz led p o → OAt { cx with A := A', n := n' } ρ fz led p o := fun {p o} h => by cases o <;> exact h
  exact ⟨B.nd, B.cm, B.ln, B.len, B.own, fun i o p h1 h2 => oat (B.obj i o p h1 h2), B.sep, B.hin, B.hsep, B.cel, B.csep, B.fin, B.fz0, B.hfz, B.fsep, B.fcel, B.loc⟩
theorem Rel.chA {A' : Around} {n' : Nat} {ρ : Map} {hid : Hd} {st : St} {s : Shared} (x : Rel cx ρ hid st s) : Rel { cx with A := A', n := n' } ρ hid st s := by
  obtain ⟨fz, led, m, mloc, x⟩ := x
  exact ⟨fz, led, m, mloc, x.F, x.N, x.B.chA, x.gens, x.os, x.tk⟩
theorem Rel.unA {A' : Around} {ρ : Map} {hid : Hd} {st : St} {s : Shared} (x : Rel (cx.at A') ρ hid st s) : Rel cx ρ hid st s := Rel.chA (cx := cx.at A') (A' := cx.A) (n' := cx.n) x
/-- a def as a primitive -/
structure Fn (cx : Cx) (k : Nat) (f : Addr) (ps : List String) (mb : PM Fl) : Prop where
  run : ∀ A', (cx.at A').Ok → A'.depth + 4 * k + 5 < recursionLimit → A'.units + 40 * k + 203 < cLine → ∀ {ρ : Map} {hid : Hd} {st st' : St} {s : Shared}, Rel cx ρ hid st s → ∀ {vs : List V} {Vs : List Value}, VRs ρ vs Vs → ∀ {v : V}, callP ps mb vs st = .ok v st' →
    ∀ {R : Result → Shared → Prop}, (∀ ρ' W s', ρ <+: ρ' → Rel cx ρ' hid st' s' → VR ρ' v W → R (.ok (.ret W)) s') → codeAny cx.M A' (.call (.ref f) ⟨Vs, []⟩) R s
theorem fn_user {k : Nat} {ps : List String} {mb : PM Fl} {name qual : Str} {params : Arguments} {body : List Stmt} {scope : Scope} {dV kV doc pm cdv ct oc : Value} {an od : Option Addr} {osl : Array (Option Value)} {f : Addr}
    (ho : cx.K.lookup f = some ⟨oc, od, .func (fnOf name qual params body scope dV kV doc pm an cdv ct), osl⟩) (hcd : codeIn cx.K cdv qual = true)
    (hb : ∀ Vs : List Value, Vs.length = ps.length → bindArgs (fnOf name qual params body scope dV kV doc pm an cdv ct) ⟨Vs, []⟩ = pure ((ps.map Str.ofString).zip Vs))
    (hkind : ∀ p ∈ ps, scope.names.lookup (Str.ofString p) = some .local ∨ scope.names.lookup (Str.ofString p) = some .cell) (hps : ps.Nodup) (hnd : ((cellsFrom 0 scope.names []).map (·.1)).Nodup)
    (hco : scope.isCoroutine = false) (hgen : scope.isGenerator = false) (hk : scope.kind = .function)
    (hbody : ∀ A' g L', ((cx.at A').inn g L' (envOfC qual scope L' f cdv) k).Ok → SimBd ((cx.at A').inn g L' (envOfC qual scope L' f cdv) k) body mb) : Fn cx k f ps mb :=
  ⟨fun A' ok hd hu _ _ _ _ _ x _ _ hv _ h _ hR => code_user (cx := cx.at A') ok hd hu ho hcd hb hkind hps hnd hco hgen hk (hbody A') x.chA hv h fun ρ' W s' a b c => hR ρ' W s' a b.unA c⟩
theorem at_ok (ok : cx.Ok) : (cx.at cx.A).Ok := ⟨ok.bmain, ok.kin, ok.top, ok.below, ok.frames, ok.fframe, ok.fkind, ok.kind, ok.globals, ok.builtins, ok.handled, by have := ok.depth; show cx.A.depth + 4 * 0 + 4 < _; omega, by have := ok.units; show cx.A.units + 40 * 0 + 200 < _; omega, ok.cinj⟩
theorem pc_user (ok : cx.Ok) {k : Nat} (hn : k + 1 ≤ cx.n) {f : Addr} {ps : List String} {mb : PM Fl} (F : Fn cx k f ps mb) : PC cx (.ref f) (callP ps mb) := by
  intro ρ hid st s x vs Vs hv v st' h
  exact wpAny_call (F.run cx.A (at_ok ok) (by have := ok.depth; omega) (by have := ok.units; omega) x hv h fun ρ' W s' a b c => ⟨ρ', a, b, c⟩)
/-- an instance made -/
def newInst (mi : PM Fl) (ps : List String) : List V → PM V := fun vs => PM.bind (alloc (.inst [])) fun v => PM.bind (callP ps mi (v :: vs)) fun r => match r with
  | .none => PM.pure v
  | _ => PM.fail
theorem under_ok (ok : cx.Ok) {c : Code} (hf : c.envs = []) (hd : c.weight ≤ 2) (hu : c.cUnits ≤ 10) (hn : 1 ≤ cx.n) : (cx.at (cx.A.under c)).Ok where
  bmain := ok.bmain
  kin := ok.kin
  top := ok.top
  below := ok.below
  frames := by show pushEnvs c.envs cx.A.frames = _; rw [hf]; exact ok.frames
  fframe := ok.fframe
  fkind := ok.fkind
  kind := ok.kind
  globals := ok.globals
  builtins := ok.builtins
  handled := ok.handled
  depth := by have := ok.depth; show cx.A.depth + c.weight + 4 * 0 + 4 < _; omega
  units := by have := ok.units; show cx.A.units + c.cUnits + 40 * 0 + 200 < _; omega
  cinj := ok.cinj
theorem tc_envs (a : Args) : (Code.builtin "type.__call__" a).envs = [] := rfl
theorem tc_frames (a : Args) : (Code.builtin "type.__call__" a).frames = 0 := by
  unfold Code.frames
  rfl
theorem tc_weight (C : Addr) (r : List Value) (kw : List (Str × Value)) : (Code.builtin "type.__call__" ⟨.ref C :: r, kw⟩).weight ≤ 2 := by
  unfold Code.weight
  rw [tc_frames]
  have h1 : (Code.builtin "type.__call__" ⟨.ref C :: r, kw⟩).isGuard = false := by show guardIds.contains "type.__call__" = false; decide
  have h2 : (Code.builtin "type.__call__" ⟨.ref C :: r, kw⟩).isCaller = false := rfl
  rw [h1, h2]
  split <;> decide
theorem tc_units (C : Addr) (r : List Value) (kw : List (Str × Value)) : (Code.builtin "type.__call__" ⟨.ref C :: r, kw⟩).cUnits ≤ 10 := by
  show 1 + 3 * (Code.builtin "type.__call__" ⟨.ref C :: r, kw⟩).frames ≤ 10
  rw [tc_frames]; decide
theorem pc_class (ok : cx.Ok) {k : Nat} (hn : k + 1 ≤ cx.n) {fI : Addr} {ps : List String} {mi : PM Fl} (hm : makesIn cx.K cx.C = true) (hi : findIn cx.K (.ref cx.C) "__init__" = some (some (.ref fI))) (hf : isFn cx.K (.ref fI) = true) (F : Fn cx k fI ps mi) :
    PC cx (.ref cx.C) (newInst mi ps) := by
  intro ρ hid st s x vs Vs hv v st' h
  unfold newInst at h
  obtain ⟨o, st1, e1, h0⟩ := bind_ok h
  clear h
  obtain ⟨r, st2, e2, h⟩ := bind_ok h0
  clear h0
  cases e1
  split at h
  · cases h
    obtain ⟨fz, led, m, mloc, x⟩ := x
    refine call_cls x.F ok.kin x.N hm hi hf fun a dx h' F' N' hlt hlt' => ?_
    have B1 := x.B.more (ob := dictOf [] 0) fun q hq => Nat.ne_of_lt (hlt q hq)
    have B2 := B1.more (a := a) (ob := instObj cx.C dx) fun q hq => by
      rcases List.mem_cons.mp hq with rfl | hq
      · exact Nat.ne_of_lt hlt'
      · exact Nat.ne_of_lt (Nat.lt_trans (hlt q hq) hlt')
    have hin : ∀ b, b ∈ led.map (·.1) → b < dx := fun b hb => by
      obtain ⟨q, hq, rfl⟩ := List.mem_map.mp hb
      exact hlt q hq
    have B3 := B2.enter (p := (a, dx)) (o := .inst []) (.head _) (.tail _ (.head _)) (fun q hq => by
        have := x.B.own q hq
        have h1 := hin _ this.1
        have h2 := hin _ this.2
        exact ⟨Nat.ne_of_gt (Nat.lt_trans h1 hlt'), Nat.ne_of_gt (Nat.lt_trans h2 hlt'), Nat.ne_of_gt h1, Nat.ne_of_gt h2⟩)
      (fun q hq => by have h1 := hlt q (x.B.hin q hq); exact ⟨Nat.ne_of_lt (Nat.lt_trans h1 hlt'), Nat.ne_of_lt h1⟩)
      (fun q hq => by have h1 := hlt q (x.B.fin q hq); exact ⟨Nat.ne_of_lt (Nat.lt_trans h1 hlt'), Nat.ne_of_lt h1⟩)
      (fun y c hc => by obtain ⟨o', v', g1, _⟩ := x.B.cel y c hc; have h1 := hlt _ g1; exact ⟨Nat.ne_of_gt (Nat.lt_trans h1 hlt'), Nat.ne_of_gt h1⟩)
      (fun hl => by
        rcases x.B.ln with q | ⟨_, o', es, ep, g2, _⟩
        · exact absurd q.1 hl
        · have h1 := hlt _ g2; exact ⟨Nat.ne_of_gt (Nat.lt_trans h1 hlt'), Nat.ne_of_gt h1⟩)
      ⟨[], 0, .nil, Nat.zero_le _, .head _, .tail _ (.head _)⟩
    have R3 : Rel cx (ρ ++ [(a, dx)]) hid { st with sto := st.sto ++ [.inst []] } { s with heap := h' } := ⟨fz, _, m, mloc, F', N', B3, x.gens, x.os, x.tk⟩
    have hp : ρ <+: ρ ++ [(a, dx)] := List.prefix_append _ _
    have hov : VR (ρ ++ [(a, dx)]) (.obj st.sto.length) (.ref a) := by
      have := VR.obj (alloc_get ρ (a, dx))
      rw [x.B.len] at this
      exact this
    have hd := ok.depth
    have hu := ok.units
    have hw := tc_weight cx.C Vs []
    have hcu := tc_units cx.C Vs []
    refine F.run _ (under_ok ok (tc_envs _) hw hcu (by omega)) (by show cx.A.depth + (Code.builtin "type.__call__" ⟨.ref cx.C :: Vs, []⟩).weight + 4 * k + 5 < _; omega) (by show cx.A.units + (Code.builtin "type.__call__" ⟨.ref cx.C :: Vs, []⟩).cUnits + 40 * k + 203 < _; omega) R3 (.cons hov (hv.mono hp)) e2 fun ρ' W s' p1 r1 v1 => ?_
    cases vr_none v1
    exact ⟨rfl, ρ', pre_trans hp p1, r1, hov.mono p1⟩
  · cases h
end
end Mine
namespace Mine
section
variable {cx : Cx}
/-- a callee whose keeper is known -/
def KeepOk (cx : Cx) (u : Value) : Prop := ∀ h, cx.K.In h → ∃ k, (k = Keeper.frame ∨ k = Keeper.machine ∨ k = Keeper.boundFrame) ∧ Looks cx.M h (keeperOf u) k
theorem keep_builtin {id : String} : KeepOk cx (.builtin id) := fun _ _ => ⟨.machine, .inr (.inl rfl), Looks.of_pure rfl⟩
theorem keep_type {T : String} : KeepOk cx (.type T) := fun _ _ => ⟨.machine, .inr (.inl rfl), Looks.of_pure rfl⟩
theorem keep_K {u : Value} (hk : keepIn cx.K u = true) : KeepOk cx u := fun h X => keeps_K hk h X
theorem evalArgs_of {M : Model} {A : Around} {E : Value → Shared → Prop} {s : Shared} {f : Value} {args : List (Bool × Sem Value)} {Q : Args → Shared → Prop} (hplain : args.any (·.1) = false)
    (h : wpAny M A (spliced args) (fun vs s' => Q ⟨vs, []⟩ s') E s) : wpAny M A (evalArgs f true args []) Q E s := by
  cases args with
  | nil =>
    unfold evalArgs
    show wpAny M A (spliced [] >>= _) Q E s
    refine wpAny_bind (wpAny_mono h (fun vs s' h' => wpAny_bind (wpAny_pure (wpAny_holding ?_))) fun _ _ x => x)
    exact wpAny_bind (wpAny_pure (wpAny_bind (wpAny_pure (wpAny_pure h'))))
  | cons a r =>
    obtain ⟨b, t⟩ := a
    rw [List.any_cons, Bool.or_eq_false_iff] at hplain
    obtain ⟨rfl, _⟩ := hplain
    exact evalArgs_plain h
theorem call_with (ok : cx.Ok) {u : Value} {pos : Pos} {es : List Expr} {ma : PM (List V)} {f : List V → PM V} {first : List V} {First : List Value} (ha : SimL cx pos es ma) (hk : KeepOk cx u) (hp : PC cx u f) (hplain : (backTo pos (starEach es cx.env)).any (·.1) = false)
    {ρ : Map} {hid : Hd} {st st1 st' : St} {s : Shared} (x : Rel cx ρ hid st s) (hf : VRs ρ first First) {vs : List V} {v : V} (e1 : ma st = .ok vs st1) (e2 : f (first ++ vs) st1 = .ok v st') :
    wpAny cx.M cx.A (callWith pos u First (backTo pos (starEach es cx.env)) []) (fun V s' => ∃ ρ', ρ <+: ρ' ∧ Rel cx ρ' hid st' s' ∧ VR ρ' v V) (fun _ _ => False) s := by
  refine callWith_of (P := cx.K.In) (by rw [hplain]; rfl) hk (evalArgs_of hplain (wp_seq (ha ρ hid st s x vs st1 e1) fun Vs s1 ρ1 p1 r1 v1 => ⟨?_, wp_seq (hp ρ1 hid st1 s1 r1 _ _ (vrs_append (hf.mono p1) v1) v st' e2) fun W s2 ρ2 p2 r2 v2 => ⟨ρ2, pre_trans p1 p2, r2, v2⟩⟩))
  obtain ⟨fz, led, m, mloc, r⟩ := r1
  exact ok.kin.keeps r.F.keep
/-- a call by a name -/
theorem sim_Call (ok : cx.Ok) {func : Expr} {es : List Expr} {pos : Pos} {u : Value} {ma : PM (List V)} {f : List V → PM V} (hf : SimV cx (eval func cx.env) (PM.pure (.glob u))) (ha : SimL cx pos es ma) (hk : KeepOk cx u) (hp : PC cx u f)
    (hplain : (backTo pos (starEach es cx.env)).any (·.1) = false) (he : eval (.Call func es [] pos) cx.env = (eval func cx.env >>= fun fv => callWith pos fv [] (backTo pos (starEach es cx.env)) [])) :
    SimV cx (eval (.Call func es [] pos) cx.env) (PM.bind ma f) := by
  intro ρ hid st s x v st' h
  obtain ⟨vs, st1, e1, h⟩ := bind_ok h
  rw [he]
  refine wpAny_bind (wp_seq (hf ρ hid st s x (.glob u) st rfl) fun U s1 ρ1 p1 r1 v1 => ?_)
  cases vr_glob v1
  exact wp_seq (call_with ok ha hk hp hplain r1 (first := []) .nil e1 h) fun W s2 ρ2 p2 r2 v2 => ⟨ρ2, pre_trans p1 p2, r2, v2⟩
/-- a method of a list, a text, a dict -/
def isList : V → PM Unit
  | .obj i => fun st => match st.sto[i]? with
    | some (.list _) => .ok () st
    | _ => .fail
  | _ => PM.fail
def isStr : V → PM Unit
  | .str _ => PM.pure ()
  | _ => PM.fail
abbrev MethForm (cx : Cx) (o : Expr) (name : Str) (apos pos : Pos) (es : List Expr) (pl : Sem Bool) : Prop := eval (.Call (.Attribute o name apos) es [] pos) cx.env = (do
      let ov ← eval o cx.env
      standAt apos.atName
      let (f, first) ← holding [ov] (getMethod ov name pl)
      callWith pos f first (backTo pos (starEach es cx.env)) [])
theorem sim_MethL (ok : cx.Ok) {o : Expr} {name : Str} {bid : String} {apos pos : Pos} {es : List Expr} {pl : Sem Bool} {mo : PM V} {ma : PM (List V)} {f : List V → PM V} (slot : Slot "list" name bid) (hty : typeOf (.builtin bid) = pure (.type "method_descriptor"))
    (hp : PC cx (.builtin bid) f) (ho : SimV cx (eval o cx.env) mo) (ha : SimL cx pos es ma) (hplain : (backTo pos (starEach es cx.env)).any (·.1) = false) (he : MethForm cx o name apos pos es pl) :
    SimV cx (eval (.Call (.Attribute o name apos) es [] pos) cx.env) (PM.bind mo fun v => PM.bind (isList v) fun _ => PM.bind ma fun vs => f (v :: vs)) := by
  intro ρ hid st s x v st' h
  obtain ⟨a, st1, e1, h1⟩ := bind_ok h
  obtain ⟨u, st2, e2, h2⟩ := bind_ok h1
  obtain ⟨vs, st3, e3, h3⟩ := bind_ok h2
  clear h h1 h2
  refine MethodCall_ (wp_seq (ho ρ hid st s x a st1 e1) fun A s1 ρ1 p1 r1 v1 => ?_) he
  unfold isList at e2
  split at e2
  · rename_i i
    obtain ⟨p, hp', rfl⟩ := vr_obj v1
    split at e2
    · rename_i xs hi
      cases e2
      obtain ⟨fz, led, m, mloc, r'⟩ := id r1
      obtain ⟨Xs, n, g1, g2⟩ := r'.list_at hi hp'
      exact kl_method r'.N g2 slot hty (wp_seq (call_with ok ha keep_builtin hp hplain r1 (first := [_]) (.cons v1 .nil) e3 h3) fun W s2 ρ2 p2 r2 v2 => ⟨ρ2, pre_trans p1 p2, r2, v2⟩)
    · cases e2
  · cases e2
set_option maxRecDepth 100000 in
theorem sim_MethS (ok : cx.Ok) {o : Expr} {name : Str} {bid : String} {apos pos : Pos} {es : List Expr} {pl : Sem Bool} {mo : PM V} {ma : PM (List V)} {f : List V → PM V} (slot : Slot "str" name bid) (hty : typeOf (.builtin bid) = pure (.type "method_descriptor"))
    (hp : PC cx (.builtin bid) f) (ho : SimV cx (eval o cx.env) mo) (ha : SimL cx pos es ma) (hplain : (backTo pos (starEach es cx.env)).any (·.1) = false) (he : MethForm cx o name apos pos es pl) :
    SimV cx (eval (.Call (.Attribute o name apos) es [] pos) cx.env) (PM.bind mo fun v => PM.bind (isStr v) fun _ => PM.bind ma fun vs => f (v :: vs)) := by
  intro ρ hid st s x v st' h
  obtain ⟨a, st1, e1, h1⟩ := bind_ok h
  obtain ⟨u, st2, e2, h2⟩ := bind_ok h1
  obtain ⟨vs, st3, e3, h3⟩ := bind_ok h2
  clear h h1 h2
  refine MethodCall_ (wp_seq (ho ρ hid st s x a st1 e1) fun A s1 ρ1 p1 r1 v1 => ?_) he
  unfold isStr at e2
  split at e2
  · cases e2
    obtain ⟨t, rfl⟩ := vr_str v1
    exact getMethod_builtin (typeIs_str _ _ _) PySem.F.plainAttrs_str slot hty (fun a e => by cases e) (wp_seq (call_with ok ha keep_builtin hp hplain r1 (first := [_]) (.cons v1 .nil) e3 h3) fun W s2 ρ2 p2 r2 v2 => ⟨ρ2, pre_trans p1 p2, r2, v2⟩)
  · cases e2
/-- a call whose value is dropped -/
theorem sim_Expr {e : Expr} {pos : Pos} {m : PM V} (h : SimV cx (eval e cx.env) m) (hi : interactive cx.env = false) (hs : swapsWith e none pos.line cx.env = pure false)
    (hd : ∀ v, dropValue e pos v = (match v with | .ref _ => (do standAt pos; let _ ← runValue (.builtin "proto.let_go" {}); pure .next) | _ => pure .next)) :
    SimS cx (.Expr e pos) (PM.bind m fun v => match v with | .obj _ => PM.fail | .glob _ => PM.fail | _ => PM.pure .next) := by
  intro ρ hid st s x v st' e0
  obtain ⟨a, st1, e1, e⟩ := bind_ok e0
  rw [exec_Expr cx.env _ pos hi hs]
  refine wpAny_bind (wpAny_standAt (wpAny_bind (wp_seq (h ρ hid st s x a st1 e1) fun A s1 ρ1 p1 r1 v1 => ?_)))
  rw [hd]
  cases v1 with
  | obj _ => cases e
  | glob _ => cases e
  | none => cases e; exact wpAny_pure ⟨ρ1, p1, r1, .next⟩
  | bool _ => cases e; exact wpAny_pure ⟨ρ1, p1, r1, .next⟩
  | int _ _ => cases e; exact wpAny_pure ⟨ρ1, p1, r1, .next⟩
  | str _ _ _ => cases e; exact wpAny_pure ⟨ρ1, p1, r1, .next⟩
  | byt _ _ => cases e; exact wpAny_pure ⟨ρ1, p1, r1, .next⟩
end
end Mine
namespace Mine
abbrev Hd.cons (q : Addr × Obj) (hid : Hd) : Hd := ⟨q :: hid.h, hid.z⟩
section
variable {cx : Cx} {ρ : Map} {hid : Hd} {st : St} {s : Shared}
theorem Fr.extBut {h₀ h h' : Heap} {L d : Addr} {m : Str → Option Value} (F : Fr h₀ L h m) (hs : ∀ b o, b ≠ d → h.get? b = some o → h'.get? b = some o) (hd : d ≠ L) (hn : h₀.get? d = none) : Fr h₀ L h' m :=
  ⟨F.ns.extBut hs (Ne.symm hd), fun b o e => hs b o (fun q => by rw [q, hn] at e; cases e) (F.keep b o e), F.above⟩
/-- a hidden object is forgotten -/
theorem Rel.less {q : Addr × Obj} (x : Rel cx ρ (hid.cons q) st s) : Rel cx ρ hid st s := by
  obtain ⟨fz, led, m, mloc, x⟩ := x
  refine ⟨fz, led, m, mloc, x.F, x.N, ?_, x.gens, x.os, x.tk⟩
  have B := x.B
  refine ⟨B.nd, B.cm, ?_, B.len, B.own, B.obj, B.sep, fun r hr => B.hin r (.tail _ hr), fun r hr => B.hsep r (.tail _ hr), B.cel, fun y c hc => ⟨fun r hr => (B.csep y c hc).1 r (.tail _ hr), (B.csep y c hc).2⟩, B.fin, B.fz0, fun r hr => B.hfz r (.tail _ hr), B.fsep, B.fcel, B.loc⟩
  rcases B.ln with h | ⟨g1, o, es, ep, g2, g3, g4, g5, g6, g7, g8, g9⟩
  · exact .inl h
  · exact .inr ⟨g1, o, es, ep, g2, g3, g4, g5, g6, fun r hr => g7 r (.tail _ hr), g8, g9⟩
/-- a new hidden object -/
theorem Rel.hide (x : Rel cx ρ hid st s) {ob : Obj} {tk : Nat} (hf : ob.isFreed = false) (htk : 0 < tk := by first | assumption | exact Nat.succ_pos _ | exact Rel.pos (by assumption) | exact RelD.tk (by assumption)) : Rel cx ρ (hid.cons (s.heap.objs.size, ob)) st { s with heap := s.heap.push ob, toks := tk } ∧ ∀ q ∈ hid.h, q.1 ≠ s.heap.objs.size := by
  obtain ⟨fz, led, m, mloc, x⟩ := x
  have hfr := news_fresh x.N
  have B := x.B.more (ob := ob) hfr
  refine ⟨⟨fz, _, m, mloc, x.F.push ob, x.N.push x.F ob hf, ?_, x.gens, x.os, htk⟩, fun q hq => hfr q (x.B.hin q hq)⟩
  have own : ∀ p ∈ ρ, s.heap.objs.size ≠ p.1 ∧ s.heap.objs.size ≠ p.2 := fun p hp => by
    obtain ⟨q, hq, e⟩ := List.mem_map.mp (x.B.own p hp).1
    obtain ⟨q', hq', e'⟩ := List.mem_map.mp (x.B.own p hp).2
    exact ⟨fun z => hfr q hq (e.trans z.symm), fun z => hfr q' hq' (e'.trans z.symm)⟩
  refine ⟨B.nd, B.cm, ?_, B.len, B.own, B.obj, B.sep, fun r hr => ?_, fun r hr => ?_, B.cel, fun y c hc => ⟨fun r hr => ?_, (B.csep y c hc).2⟩, B.fin, B.fz0, fun r hr => ?_, B.fsep, B.fcel, B.loc⟩
  · rcases B.ln with h | ⟨g1, o, es, ep, g2, g3, g4, g5, g6, g7, g8, g9⟩
    · exact .inl h
    · refine .inr ⟨g1, o, es, ep, g2, g3, g4, g5, g6, fun r hr => ?_, g8, g9⟩
      rcases List.mem_cons.mp hr with rfl | hr
      · rcases x.B.ln with h | ⟨_, o', _, _, k2, _⟩
        · exact absurd h.1 g1
        · exact Ne.symm (hfr _ k2)
      · exact g7 r hr
  · rcases List.mem_cons.mp hr with rfl | hr
    · exact .head _
    · exact B.hin r hr
  · rcases List.mem_cons.mp hr with rfl | hr
    · exact own
    · exact B.hsep r hr
  · rcases List.mem_cons.mp hr with rfl | hr
    · obtain ⟨o, v, k1, _⟩ := x.B.cel y c hc
      exact Ne.symm (hfr _ k1)
    · exact (B.csep y c hc).1 r hr
  · rcases List.mem_cons.mp hr with rfl | hr
    · exact fun r' hr' => hfr r' (x.B.fin r' hr')
    · exact B.hfz r hr
/-- a hidden object turns -/
theorem Rel.turn {I : Addr} {o o' : Obj} {h' : Heap} {tk : Nat} (x : Rel cx ρ (hid.cons (I, o)) st s) (hI : ∀ q ∈ hid.h, q.1 ≠ I) (hk : ∀ b ob, b ≠ I → s.heap.get? b = some ob → h'.get? b = some ob) (ho : h'.get? I = some o') (htk : 0 < tk := by first | assumption | exact Nat.succ_pos _ | exact Rel.pos (by assumption) | exact RelD.tk (by assumption)) :
    Rel cx ρ (hid.cons (I, o')) st { s with heap := h', toks := tk } := by
  obtain ⟨fz, led, m, mloc, x⟩ := x
  have B := x.B
  have hm : (I, o) ∈ led := B.hin _ (.head _)
  have hg := x.N _ hm
  have own : ∀ p ∈ ρ, I ≠ p.1 ∧ I ≠ p.2 := B.hsep _ (.head _)
  have N' : News cx.h₀ cx.L h' (updL I o' led) := fun q hq => by
    obtain ⟨p, hp, e⟩ := List.mem_map.mp hq
    by_cases hd : p.1 = I
    · rw [if_pos hd] at e; subst e; exact ⟨ho, hg.2.1, hg.2.2⟩
    · rw [if_neg hd] at e; subst e; have := x.N _ hp; exact ⟨hk _ _ hd this.1, this.2⟩
  refine ⟨fz, updL I o' led, m, mloc, Fr.extBut x.F hk hg.2.1 hg.2.2, N', ?_, x.gens, x.os, htk⟩
  have cne : ∀ y c, cx.env.cells.lookup y = some c → c ≠ I := fun y c hc => Ne.symm ((B.csep y c hc).1 _ (.head _))
  refine ⟨by rw [updL_fst]; exact B.nd, B.cm, ?_, B.len, fun p hp => by rw [updL_fst]; exact B.own p hp, fun i ob p h1 h2 => ?_, B.sep, fun r hr => ?_, fun r hr => ?_, fun y c hc => ?_, fun y c hc => ⟨fun r hr => ?_, (B.csep y c hc).2⟩, fun r hr => ?_, B.fz0, fun r hr => ?_, B.fsep, B.fcel, fun n v hv => ?_⟩
  · rcases B.ln with h | ⟨g1, ob, es, ep, g2, g3, g4, g5, g6, g7, g8, g9⟩
    · exact .inl h
    · refine .inr ⟨g1, ob, es, ep, mem_updL_ne g2 fun e => g7 _ (.head _) e.symm, g3, g4, g5, g6, fun r hr => ?_, g8, g9⟩
      rcases List.mem_cons.mp hr with rfl | hr
      · exact g7 (I, o) (.head _)
      · exact g7 r (.tail _ hr)
  · refine (B.obj i ob p h1 h2).mono (pre_refl _) (fun _ h => h) fun b ob' hb hbp => mem_updL_ne hb fun e => ?_
    have := own p (mem_of_get h2)
    rcases hbp with rfl | rfl
    · exact this.1 e.symm
    · exact this.2 e.symm
  · rcases List.mem_cons.mp hr with rfl | hr
    · exact mem_updL_self hm
    · exact mem_updL_ne (B.hin r (.tail _ hr)) (hI r hr)
  · rcases List.mem_cons.mp hr with rfl | hr
    · exact own
    · exact B.hsep r (.tail _ hr)
  · obtain ⟨ob, v, h1, h2⟩ := B.cel y c hc
    exact ⟨ob, v, mem_updL_ne h1 (cne y c hc), h2⟩
  · rcases List.mem_cons.mp hr with rfl | hr
    · exact Ne.symm (cne y c hc)
    · exact (B.csep y c hc).1 r (.tail _ hr)
  · exact mem_updL_ne (B.fin r hr) (B.hfz (I, o) (.head _) r hr)
  · rcases List.mem_cons.mp hr with rfl | hr
    · exact B.hfz (I, o) (.head _)
    · exact B.hfz r (.tail _ hr)
  · obtain ⟨W, h1, h2⟩ := B.loc n v hv
    exact ⟨W, h1, h2.mono fun c ob hc hb => mem_updL_ne hb (cne _ c hc)⟩
theorem Bear.drop {fz led : Led} {m mloc : Str → Option Value} {I : Addr} {o : Obj} (B : Bear cx ρ (hid.cons (I, o)) fz led m mloc st) (hI : ∀ q ∈ hid.h, q.1 ≠ I) : Bear cx ρ hid fz (led.filter fun q => decide (q.1 ≠ I)) m mloc st := by
  have own : ∀ p ∈ ρ, I ≠ p.1 ∧ I ≠ p.2 := B.hsep _ (.head _)
  have cne : ∀ y c, cx.env.cells.lookup y = some c → c ≠ I := fun y c hc => Ne.symm ((B.csep y c hc).1 _ (.head _))
  have mf : ∀ {q : Addr × Obj}, q ∈ led → q.1 ≠ I → q ∈ led.filter (fun q => decide (q.1 ≠ I)) := fun hq hne => List.mem_filter.mpr ⟨hq, decide_eq_true hne⟩
  have mfa : ∀ {b : Addr}, b ∈ led.map (·.1) → b ≠ I → b ∈ (led.filter (fun q => decide (q.1 ≠ I))).map (·.1) := fun {b} hb hne => by
    obtain ⟨q, hq, rfl⟩ := List.mem_map.mp hb
    exact List.mem_map_of_mem (mf hq hne)
  refine ⟨B.nd.sublist (List.filter_sublist.map _), B.cm, ?_, B.len, fun p hp => ⟨mfa (B.own p hp).1 (Ne.symm (own p hp).1), mfa (B.own p hp).2 (Ne.symm (own p hp).2)⟩, fun i ob p h1 h2 => ?_, B.sep, fun r hr => mf (B.hin r (.tail _ hr)) (hI r hr), fun r hr => B.hsep r (.tail _ hr), fun y c hc => ?_, fun y c hc => ⟨fun r hr => (B.csep y c hc).1 r (.tail _ hr), (B.csep y c hc).2⟩, fun r hr => mf (B.fin r hr) (B.hfz (I, o) (.head _) r hr), B.fz0, fun r hr => B.hfz r (.tail _ hr), B.fsep, B.fcel, fun n v hv => ?_⟩
  · rcases B.ln with h | ⟨g1, ob, es, ep, g2, g3, g4, g5, g6, g7, g8, g9⟩
    · exact .inl h
    · exact .inr ⟨g1, ob, es, ep, mf g2 fun e => g7 _ (.head _) e.symm, g3, g4, g5, g6, fun r hr => g7 r (.tail _ hr), g8, g9⟩
  · refine (B.obj i ob p h1 h2).mono (pre_refl _) (fun _ h => h) fun b ob' hb hbp => mf hb ?_
    have := own p (mem_of_get h2)
    rcases hbp with rfl | rfl
    · exact Ne.symm this.1
    · exact Ne.symm this.2
  · obtain ⟨ob, v, h1, h2⟩ := B.cel y c hc
    exact ⟨ob, v, mf h1 (cne y c hc), h2⟩
  · obtain ⟨W, h1, h2⟩ := B.loc n v hv
    exact ⟨W, h1, h2.mono fun c ob hc hb => mf hb (cne _ c hc)⟩
/-- a hidden object is dropped, whatever becomes of it -/
theorem Rel.dropI {I : Addr} {o : Obj} {h' : Heap} {tk : Nat} (x : Rel cx ρ (hid.cons (I, o)) st s) (hI : ∀ q ∈ hid.h, q.1 ≠ I) (hk : ∀ b ob, b ≠ I → s.heap.get? b = some ob → h'.get? b = some ob) (htk : 0 < tk := by first | assumption | exact Nat.succ_pos _ | exact Rel.pos (by assumption) | exact RelD.tk (by assumption)) :
    Rel cx ρ hid st { s with heap := h', toks := tk } := by
  obtain ⟨fz, led, m, mloc, x⟩ := x
  have hg := x.N _ (x.B.hin _ (.head _))
  refine ⟨fz, led.filter fun q => decide (q.1 ≠ I), m, mloc, Fr.extBut x.F hk hg.2.1 hg.2.2, fun q hq => ?_, x.B.drop hI, x.gens, x.os, htk⟩
  obtain ⟨h1, h2⟩ := List.mem_filter.mp hq
  have := x.N q h1
  exact ⟨hk _ _ (of_decide_eq_true h2) this.1, this.2⟩
end
end Mine
namespace Mine
/-- where a loop's items come from: an object that must stand as it is, or nothing -/
abbrev Src := Option (Nat × O)
open Classical in
noncomputable def chk (src : Src) : PM Unit := fun st => match src with
  | none => .ok () st
  | some p => if st.sto[p.1]? = some p.2 then .ok () st else .fail
theorem chk_ok {src : Src} {st st' : St} (h : chk src st = .ok () st') : st' = st ∧ ∀ p, src = some p → st.sto[p.1]? = some p.2 := by
  unfold chk at h
  split at h
  · cases h; exact ⟨rfl, fun p e => by cases e⟩
  · rename_i p
    split at h
    · rename_i e; cases h; exact ⟨rfl, fun q hq => by cases hq; exact e⟩
    · cases h
theorem chk_some {j : Nat} {o : O} {st : St} (h : st.sto[j]? = some o) : chk (some (j, o)) st = .ok () st := by
  unfold chk
  exact if_pos h
/-- the ints of a range -/
def rangeInts (a b c : Int) : List Int := (List.range (if a < b then ((b - a - 1) / c + 1).toNat else 0)).map fun i : Nat => a + (i : Int) * c
def iterOf : V → PM (Src × List V)
  | .obj i => fun st => match st.sto[i]? with
    | some (.list xs) => .ok (some (i, .list xs), xs) st
    | some (.tuple xs) => .ok (some (i, .tuple xs), xs) st
    | some (.range a b c) => if -1000000000 ≤ a ∧ a ≤ 1000000000 ∧ -1000000000 ≤ b ∧ b ≤ 1000000000 ∧ 0 < c ∧ c ≤ 1000000000 then .ok (none, (rangeInts a b c).map V.int) st else .fail
    | _ => .fail
  | .str l => fun st => .ok (none, l.map fun c => .str [c]) st
  | _ => PM.fail
noncomputable def loopF (src : Src) (body : V → PM Fl) : List V → PM Fl
  | [] => PM.bind (chk src) fun _ => PM.pure .next
  | x :: r => PM.bind (chk src) fun _ => PM.bind (body x) fun f => match f with
    | .next => loopF src body r
    | .cont => loopF src body r
    | .brk => PM.pure .next
    | .ret v => PM.pure (.ret v)
structure Iter (cx : Cx) (ρ₀ : Map) (src : Src) (xs : List V) (I : Addr) (At : Nat → Heap → Prop) : Prop where
  frame : ∀ i h h', At i h → (∀ o, h.get? I = some o → h'.get? I = some o) → At i h'
  there : ∀ i h, At i h → ∃ o, h.get? I = some o
  next : ∀ i x ρ hid st s, xs[i]? = some x → At i s.heap → ρ₀ <+: ρ → Rel cx ρ hid st s → (∀ p, src = some p → st.sto[p.1]? = some p.2) → ∀ (A : Around) (Q : Option Value → Shared → Prop) (E : Value → Shared → Prop),
    (∀ W h' tk, VR ρ x W → At (i + 1) h' → (∀ b o, b ≠ I → s.heap.get? b = some o → h'.get? b = some o) → Q (some W) { s with heap := h', toks := tk }) → wpAny cx.M A (pyNext (.ref I)) Q E s
  done : ∀ ρ hid st s, At xs.length s.heap → ρ₀ <+: ρ → Rel cx ρ hid st s → (∀ p, src = some p → st.sto[p.1]? = some p.2) → ∀ (A : Around) (Q : Option Value → Shared → Prop) (E : Value → Shared → Prop), A.handled = none →
    (∀ h' tk, (∀ b o, b ≠ I → s.heap.get? b = some o → h'.get? b = some o) → Q none { s with heap := h', toks := tk }) → wpAny cx.M A (pyNext (.ref I)) Q E s
  self : ∀ i s, At i s.heap → ∀ (A : Around) (Q : Value → Shared → Prop) (E : Value → Shared → Prop), Q (.ref I) s → wpAny cx.M A (pyIter (.ref I)) Q E s
  go : ∀ i s, At i s.heap → ∀ (A : Around) (target : Expr) (W : Value) (Q : Unit → Shared → Prop) (E : Value → Shared → Prop), Q () s → wpAny cx.M A (letOwnedTupleGo target (.ref I) W) Q E s
theorem go_plain {M : Model} {A : Around} {s : Shared} {I : Addr} {o : Obj} {n : String} (ho : s.heap.get? I = some o) (hc : o.cls = .type n)
    (hn : ["enumerate", "zip", "dict_itemiterator", "dict_reverseitemiterator", "odict_iterator", "itertools.zip_longest", "itertools.pairwise"].contains n = false) (target : Expr) (W : Value) (Q : Unit → Shared → Prop) (E : Value → Shared → Prop) (hq : Q () s) :
    wpAny M A (letOwnedTupleGo target (.ref I) W) Q E s := by
  unfold letOwnedTupleGo
  have key : ∀ vs : Data, wpAny M A (match o.cls, vs with
      | .type n, .fields vs => (if (["enumerate", "zip", "dict_itemiterator", "dict_reverseitemiterator", "odict_iterator", "itertools.zip_longest", "itertools.pairwise"].contains n && vs[0]? == some W) = true then (do rule "for.unpacks-the-owned-tuple"; updateField I 0 .none) else pure ())
      | _, _ => pure ()) Q E s := fun vs => by
    rw [hc]
    cases vs <;> first | exact wpAny_pure hq | (dsimp only; rw [hn]; exact wpAny_pure hq)
  split <;> first
    | exact wpAny_pure hq
    | (cases W <;> first
        | exact wpAny_pure hq
        | (refine wpAny_bind (wpAny_load ho ?_)
           rw [hc]
           split <;> first
             | exact wpAny_pure hq
             | (rename_i h1 h2; cases h1; rw [hn, Bool.false_and]; exact wpAny_pure hq)))
section
variable {cx : Cx}
theorem iter_list {j : Nat} {xs : List V} {I : Addr} {ρ₀ : Map} {p : Addr × Addr} (hp₀ : ρ₀[j]? = some p) :
    Iter cx ρ₀ (some (j, .list xs)) xs I (fun i h => h.IsListIter I p.1 i) where
  frame := fun i h h' x k => x.at fun o e => k o e
  there := fun i h ⟨o, ho, _⟩ => ⟨o, ho⟩
  next := by
    intro i x ρ hid st s hx hit hpre r hs A Q E k
    have hj := hs _ rfl
    have hp := get_mono hpre hp₀
    obtain ⟨fz, led, m, mloc, r⟩ := r
    obtain ⟨Xs, n, g1, g2⟩ := r.list_at hj hp
    obtain ⟨W, w1, w2⟩ := vrs_get g1 hx
    exact wpAny_pyNext_list_item hit ⟨_, (r.N _ g2).1, rfl, _, rfl⟩ (by simpa using w1) fun h' hit' hs' => k W h' s.toks w2 hit' fun b o hb e => (hs'.2 b hb).trans e
  done := by
    intro ρ hid st s hit hpre r hs A Q E hh k
    have hj := hs _ rfl
    have hp := get_mono hpre hp₀
    obtain ⟨fz, led, m, mloc, r⟩ := r
    obtain ⟨Xs, n, g1, g2⟩ := r.list_at hj hp
    exact wpAny_pyNext_list_end hh hit ⟨_, (r.N _ g2).1, rfl, _, rfl⟩ (by rw [List.getElem?_toArray]; exact List.getElem?_eq_none (by rw [g1.length]; exact Nat.le_refl _)) fun h' hs' => k h' s.toks fun b o hb e => hs' b o hb e
  self := fun i s hit A Q E hq => wpAny_pyIter_listiter hit hq
  go := fun i s hit A target W Q E hq => by
    obtain ⟨o, ho, hc, hd⟩ := hit
    exact go_plain ho hc (by decide) target W Q E hq
theorem iter_tuple {j : Nat} {xs : List V} {I : Addr} {ρ₀ : Map} {p : Addr × Addr} (hp₀ : ρ₀[j]? = some p) :
    Iter cx ρ₀ (some (j, .tuple xs)) xs I (fun i h => h.IsTupleIter I p.1 i) where
  frame := fun i h h' ⟨o, ho, hr⟩ k => ⟨o, k o ho, hr⟩
  there := fun i h ⟨o, ho, _⟩ => ⟨o, ho⟩
  next := by
    intro i x ρ hid st s hx hit hpre r hs A Q E k
    have hj := hs _ rfl
    have hp := get_mono hpre hp₀
    obtain ⟨fz, led, m, mloc, r⟩ := r
    obtain ⟨Xs, n, g1, g2⟩ := r.tuple_at hj hp
    obtain ⟨W, w1, w2⟩ := vrs_get g1 hx
    exact wpAny_pyNext_tuple_item hit ⟨_, (r.N _ g2).1, rfl, _, rfl⟩ (by simpa using w1) fun h' hit' hs' => k W h' s.toks w2 hit' fun b o hb e => (hs'.2 b hb).trans e
  done := by
    intro ρ hid st s hit hpre r hs A Q E hh k
    have hj := hs _ rfl
    have hp := get_mono hpre hp₀
    obtain ⟨fz, led, m, mloc, r⟩ := r
    obtain ⟨Xs, n, g1, g2⟩ := r.tuple_at hj hp
    exact wpAny_pyNext_tuple_end hh hit ⟨_, (r.N _ g2).1, rfl, _, rfl⟩ (by rw [List.getElem?_toArray]; exact List.getElem?_eq_none (by rw [g1.length]; exact Nat.le_refl _)) fun h' hs' => k h' s.toks fun b o hb e => hs' b o hb e
  self := fun i s hit A Q E hq => wpAny_pyIter_tupleiter hit hq
  go := fun i s hit A target W Q E hq => by
    obtain ⟨o, ho, hc, hd⟩ := hit
    exact go_plain ho hc (by decide) target W Q E hq
theorem iter_range {ρ₀ : Map} {a c : Int} {n : Nat} {I : Addr} (xs : List V) (hxs : xs = ((List.range n).map fun i : Nat => V.int (a + (i : Int) * c))) :
    Iter cx ρ₀ none xs I (fun i h => IsRangeIter h I (a + (i : Nat) * c) ((n : Int) - (i : Nat)) c) where
  frame := fun i h h' x k => k _ x
  there := fun i h x => ⟨_, x⟩
  next := by
    intro i x ρ hid st s hx hit hpre r hs A Q E k
    subst hxs
    have hi : i < n := by
      rcases Nat.lt_or_ge i n with h | h
      · exact h
      · rw [List.getElem?_eq_none (by simpa using h)] at hx; cases hx
    have hxe : x = .int (a + (i : Int) * c) := by
      rw [List.getElem?_map, List.getElem?_range hi] at hx
      exact (Option.some.inj hx).symm
    subst hxe
    refine wpAny_pyNext_range_item hit (by omega) fun h' hit' hs' => k _ h' _ (.int _ _) ?_ fun b o hb e => (hs'.2 b hb).trans e
    have e1 : a + (i : Int) * c + c = a + ((i + 1 : Nat) : Int) * c := by push_cast; rw [Int.add_mul]; omega
    have e2 : (n : Int) - (i : Nat) - 1 = (n : Int) - ((i + 1 : Nat) : Int) := by push_cast; omega
    rw [e1, e2] at hit'
    exact hit'
  done := by
    intro ρ hid st s hit hpre r hs A Q E hh k
    subst hxs
    refine wpAny_pyNext_range_end hh hit (by simp) fun h' hs' => k h' s.toks fun b o hb e => hs' b o hb e
  self := fun i s hit A Q E hq => wpAny_pyIter_rangeiter hit hq
  go := fun i s hit A target W Q E hq => go_plain hit rfl (by decide) target W Q E hq
theorem iter_str {ρ₀ : Map} {l : List Nat} (hl : okS l) {I : Addr} {cls : String} {t : Tok} (hcl : cls = "str_ascii_iterator" ∨ cls = "str_iterator") :
    Iter cx ρ₀ none (l.map fun c => V.str [c]) I (fun i h => h.IsStrIter I cls ⟨l.toArray⟩ t i) where
  frame := fun i h h' ⟨o, ho, hr⟩ k => ⟨o, k o ho, hr⟩
  there := fun i h ⟨o, ho, _⟩ => ⟨o, ho⟩
  next := by
    intro i x ρ hid st s hx hit hpre r hs A Q E k
    rw [List.getElem?_map] at hx
    obtain ⟨c, hc, rfl⟩ := Option.map_eq_some_iff.mp hx
    have hoc : okS [c] := fun d hd => by rw [List.mem_singleton.mp hd]; exact hl c (List.mem_of_getElem? hc)
    have hc' : (⟨l.toArray⟩ : Str).cps[i]? = some c := by simpa using hc
    rcases hcl with rfl | rfl
    · exact wpAny_pyNext_ascii_item hit hc' fun h' hit' hs' => k _ h' _ (.str [c] _ hoc) hit' fun b o hb e => (hs'.2 b hb).trans e
    · exact wpAny_pyNext_wide_item hit hc' fun h' hit' hs' => k _ h' _ (.str [c] _ hoc) hit' fun b o hb e => (hs'.2 b hb).trans e
  done := by
    intro ρ hid st s hit hpre r hs A Q E hh k
    rw [List.length_map] at hit
    have hn : (⟨l.toArray⟩ : Str).cps[l.length]? = none := by simp
    rcases hcl with rfl | rfl
    · exact wpAny_pyNext_ascii_end hh hit hn fun h' hs' => k h' _ fun b o hb e => hs' b o hb e
    · exact wpAny_pyNext_wide_end hh hit hn fun h' hs' => k h' _ fun b o hb e => hs' b o hb e
  self := by
    intro i s hit A Q E hq
    rcases hcl with rfl | rfl
    · exact wpAny_pyIter_striter_ascii hit hq
    · exact wpAny_pyIter_striter_wide hit hq
  go := fun i s hit A target W Q E hq => by
    obtain ⟨o, ho, hc, hd⟩ := hit
    rcases hcl with rfl | rfl
    · exact go_plain ho hc (by decide) target W Q E hq
    · exact go_plain ho hc (by decide) target W Q E hq
theorem range_small {a b c : Int} (h : -1000000000 ≤ a ∧ a ≤ 1000000000 ∧ -1000000000 ≤ b ∧ b ≤ 1000000000 ∧ 0 < c ∧ c ≤ 1000000000) :
    Builtin.Range.small a b c = true ∧ Builtin.Range.rangeSize a b c = (((if a < b then ((b - a - 1) / c + 1).toNat else 0 : Nat)) : Int) := by
  obtain ⟨h1, h2, h3, h4, h5, h6⟩ := h
  have hdiv : a < b → 0 ≤ (b - a - 1) / c ∧ (b - a - 1) / c ≤ b - a - 1 := fun hab => ⟨Int.ediv_nonneg (by omega) (by omega), Int.ediv_le_self _ (by omega)⟩
  have hs : Builtin.Range.rangeSize a b c = (((if a < b then ((b - a - 1) / c + 1).toNat else 0 : Nat)) : Int) := by
    unfold Builtin.Range.rangeSize
    rw [if_pos h5]
    split
    · rename_i hab
      have := hdiv hab
      rw [Int.toNat_of_nonneg (by omega)]
    · rfl
  refine ⟨?_, hs⟩
  unfold Builtin.Range.small
  have hsz : 0 ≤ Builtin.Range.rangeSize a b c ∧ Builtin.Range.rangeSize a b c ≤ 2000000001 := by
    unfold Builtin.Range.rangeSize
    rw [if_pos h5]
    split
    · rename_i hab
      have := hdiv hab
      omega
    · omega
  have f : ∀ i : Int, -9000000000000000000 ≤ i → i ≤ 9000000000000000000 → Builtin.Range.rangeFitsLong i = true := fun i hi hi' => by
    unfold Builtin.Range.rangeFitsLong
    simp only [Bool.and_eq_true, decide_eq_true_eq]
    omega
  rw [f a (by omega) (by omega), f b (by omega) (by omega), f c (by omega) (by omega), f _ (by omega) (by omega), if_pos h5, f (b + (c - 1)) (by omega) (by omega)]
  simp
theorem iter_start {ρ : Map} {hid : Hd} {st st' : St} {s : Shared} (x : Rel cx ρ hid st s) {v : V} {W : Value} (hv : VR ρ v W) {r : Src × List V} (h : iterOf v st = .ok r st') {Ar : Around} {Q : Value → Shared → Prop} {E : Value → Shared → Prop}
    (k : ∀ I o At s', (∀ cx' : Cx, Iter cx' ρ r.1 r.2 I At) → At 0 s'.heap → Rel cx ρ (hid.cons (I, o)) st' s' → (∀ q ∈ hid.h, q.1 ≠ I) → Q (.ref I) s') : wpAny cx.M Ar (pyIter W) Q E s := by
  unfold iterOf at h
  split at h
  · rename_i i
    obtain ⟨p, hp, rfl⟩ := vr_obj hv
    obtain ⟨fz, led, m, mloc, x'⟩ := id x
    split at h
    · rename_i xs hi
      cases h
      obtain ⟨Xs, n, g1, g2⟩ := x'.list_at hi hp
      refine wpAny_pyIter_list ⟨_, (x'.N _ g2).1, rfl, _, rfl⟩ ?_
      obtain ⟨a, b⟩ := x.hide (ob := { cls := .type "list_iterator", data := .fields #[.ref p.1, .int 0 0] }) (tk := s.toks) rfl
      exact k _ _ _ _ (fun _ => iter_list hp) ⟨_, Heap.get?_push_size _ rfl, rfl, rfl⟩ a b
    · rename_i xs hi
      cases h
      obtain ⟨Xs, n, g1, g2⟩ := x'.tuple_at hi hp
      refine wpAny_pyIter_tuple ⟨_, (x'.N _ g2).1, rfl, _, rfl⟩ ?_
      obtain ⟨a, b⟩ := x.hide (ob := { cls := .type "tuple_iterator", data := .fields #[.ref p.1, .int 0 0] }) (tk := s.toks) rfl
      exact k _ _ _ _ (fun _ => iter_tuple hp) ⟨_, Heap.get?_push_size _ rfl, rfl, rfl⟩ a b
    · rename_i a b c hi
      split at h
      · rename_i hb
        cases h
        obtain ⟨A, B, S, w1, w2, w3, w4⟩ := x'.B.obj i _ p hi hp
        obtain ⟨t1, rfl⟩ := vr_int w1; obtain ⟨t2, rfl⟩ := vr_int w2; obtain ⟨t3, rfl⟩ := vr_int w3
        obtain ⟨hsm, hsz⟩ := range_small hb
        refine wpAny_pyIter_range (x'.N _ w4).1 hsm ?_
        obtain ⟨e1, e2⟩ := x.hide (ob := { cls := .type "range_iterator", data := .fields #[rawInt a, rawInt (Builtin.Range.rangeSize a b c), rawInt c] }) (tk := s.toks) rfl
        refine k _ _ _ _ (fun _ => iter_range (a := a) (c := c) (n := if a < b then ((b - a - 1) / c + 1).toNat else 0) _ ?_) ?_ e1 e2
        · unfold rangeInts; rw [List.map_map]; rfl
        · show Heap.get? _ _ = _
          rw [Heap.get?_push_size _ rfl, hsz]
          simp [rawInt]
      · cases h
    · cases h
  · have ho := vr_ok hv
    obtain ⟨t, rfl⟩ := vr_str hv
    cases h
    rename_i l
    cases ha : (⟨l.toArray⟩ : Str).cps.all (· < 128) with
    | false =>
      refine wpAny_pyIter_wide ha ?_
      obtain ⟨e1, e2⟩ := x.hide (ob := { cls := .type "str_iterator", data := .fields #[.str ⟨l.toArray⟩ t, .int 0 0] }) (tk := s.toks) rfl
      exact k _ _ _ _ (fun _ => iter_str ho (.inr rfl)) ⟨_, Heap.get?_push_size _ rfl, rfl, rfl⟩ e1 e2
    | true =>
      refine wpAny_pyIter_ascii ha ?_
      obtain ⟨e1, e2⟩ := x.hide (ob := { cls := .type "str_ascii_iterator", data := .fields #[.str ⟨l.toArray⟩ t, .int 0 0] }) (tk := s.toks) rfl
      exact k _ _ _ _ (fun _ => iter_str ho (.inl rfl)) ⟨_, Heap.get?_push_size _ rfl, rfl, rfl⟩ e1 e2
  · cases h
/-- targets -/
abbrev SimG (cx : Cx) (target : Expr) (g : V → PM Unit) : Prop := P1 cx (fun W => assign target cx.env W) g UR
theorem sim_target (ok : cx.Ok) {n : String} {pos : Pos} (hk : Asg cx n) : SimG cx (.Name (Str.ofString n) pos) (setL n) := by
  intro ρ hid st s x a A ha v st' h
  cases h
  exact wpAny_assign_Name (store_name ok x ha hk fun s' r => ⟨ρ, pre_refl ρ, r, trivial⟩)
theorem loop_turns (ok : cx.Ok) {target : Expr} {body : List Stmt} {g : V → PM Unit} {mb : PM Fl} (hg : SimG cx target g) (hb : SimSs cx body mb) {src : Src} {xs : List V} {I : Addr} {At : Nat → Heap → Prop} {ρ₀ : Map} {hid : Hd} (It : Iter cx ρ₀ src xs I At) (hI : ∀ q ∈ hid.h, q.1 ≠ I)
    {o : Obj} {st st' : St} {s : Shared} (x : Rel cx ρ₀ (hid.cons (I, o)) st s) (hat : At 0 s.heap) {fl : Fl} (h : loopF src (fun v => PM.bind (g v) fun _ => mb) xs st = .ok fl st') {R : Result → Shared → Prop}
    (hR : ∀ f s' ρ', ρ₀ <+: ρ' → Rel cx ρ' hid st' s' → FR ρ' fl f → R (.ok f) s') : codeAny cx.M cx.A (.forLoop target (.ref I) body [] cx.env) R s := by
  refine codeAny_forLoop_any (fun n s' => ∃ i ρ' o' st1, ρ₀ <+: ρ' ∧ Rel cx ρ' (hid.cons (I, o')) st1 s' ∧ At i s'.heap ∧ i ≤ xs.length ∧ n = xs.length + 1 - i ∧ loopF src (fun v => PM.bind (g v) fun _ => mb) (xs.drop i) st1 = .ok fl st') ?_ (xs.length + 1)
    ⟨0, ρ₀, o, st, pre_refl _, x, hat, Nat.zero_le _, rfl, h⟩
  rintro n s1 ⟨i, ρ1, o1, st1, p1, r1, a1, hi, rfl, e1⟩
  rcases Nat.lt_or_ge i xs.length with hlt | hge
  · have hx : xs[i]? = some xs[i] := List.getElem?_eq_getElem hlt
    have hd : xs.drop i = xs[i] :: xs.drop (i + 1) := List.drop_eq_getElem_cons hlt
    rw [hd] at e1
    unfold loopF at e1
    obtain ⟨_, st2, c1, e2⟩ := bind_ok e1
    obtain ⟨rfl, c2⟩ := chk_ok c1
    obtain ⟨f, st3, c3, e3⟩ := bind_ok e2
    obtain ⟨_, st4, c4, c5⟩ := bind_ok c3
    refine lf r1.pos (It.next i xs[i] ρ1 _ _ s1 hx a1 p1 r1 c2 cx.A _ _ fun W h' tk w1 w2 w3 htk => ?_)
    obtain ⟨o2, ho2⟩ := It.there _ _ w2
    have r2 := r1.turn (tk := tk) hI w3 ho2
    refine It.go (i + 1) _ w2 cx.A target W _ _ ?_
    refine wp_seq (hg ρ1 _ _ _ r2 _ W w1 () st4 c4) fun _ s3 ρ3 p3 r3 _ => ?_
    refine wp_seq (hb ρ3 _ _ _ r3 f st3 c5) fun fw s4 ρ4 p4 r4 hf => ?_
    have hat4 : At (i + 1) s4.heap := by
      refine It.frame (i + 1) h' s4.heap w2 fun ob hob => ?_
      have : ob = o2 := Option.some.inj (hob.symm.trans ho2)
      subst this
      obtain ⟨fz, led, m, mloc, r4'⟩ := id r4
      exact (r4'.N _ (r4'.B.hin _ (.head _))).1
    have pp : ρ₀ <+: ρ4 := pre_trans p1 (pre_trans p3 p4)
    cases hf with
    | next => exact ⟨xs.length + 1 - (i + 1), by omega, i + 1, ρ4, o2, st3, pp, r4, hat4, hlt, rfl, e3⟩
    | cont => exact ⟨xs.length + 1 - (i + 1), by omega, i + 1, ρ4, o2, st3, pp, r4, hat4, hlt, rfl, e3⟩
    | brk => cases e3; exact hR _ _ ρ4 pp r4.less .next
    | ret hv => cases e3; exact hR _ _ ρ4 pp r4.less (.ret hv)
  · have hil : i = xs.length := Nat.le_antisymm hi hge
    subst hil
    rw [List.drop_length] at e1
    unfold loopF at e1
    obtain ⟨_, st2, c1, e2⟩ := bind_ok e1
    obtain ⟨rfl, c2⟩ := chk_ok c1
    cases e2
    refine lf r1.pos (It.done ρ1 _ _ s1 a1 p1 r1 c2 cx.A _ _ ok.handled fun h' tk w3 htk => wpAny_execs_nil ?_)
    exact hR _ _ ρ1 p1 (r1.dropI hI w3) .next
theorem sim_For (ok : cx.Ok) {target iter : Expr} {body : List Stmt} {pos : Pos} {mi : PM V} {g : V → PM Unit} {mb : PM Fl} (hi : SimV cx (eval iter cx.env) mi) (hg : SimG cx target g) (hb : SimSs cx body mb)
    (hs : ∀ x, foldedSetIterable iter cx.env x = pure x) : SimS cx (.For target iter body [] pos) (PM.bind mi fun v => PM.bind (iterOf v) fun p => loopF p.1 (fun x => PM.bind (g x) fun _ => mb) p.2) := by
  intro ρ hid st s x v st' h
  obtain ⟨a, st1, e1, h1⟩ := bind_ok h
  obtain ⟨p, st2, e2, h2⟩ := bind_ok h1
  refine wpAny_For (wp_seq (hi ρ hid st s x a st1 e1) fun A s1 ρ1 p1 r1 v1 => iter_start r1 v1 e2 fun I o At s2 It hat r2 hI => ?_) hs
  exact loop_turns ok hg hb (It cx) hI r2 hat h2 fun f s' ρ' pp rr hf => ⟨ρ', pre_trans p1 pp, rr, hf⟩
end
end Mine
namespace Mine
theorem lookup_mem {l : List (Str × Addr)} {x : Str} {c : Addr} (e : l.lookup x = some c) : (x, c) ∈ l := by
  induction l with
  | nil => cases e
  | cons a r ih =>
    rw [List.lookup_cons] at e
    cases q : x == a.1 with
    | true => rw [q] at e; cases e; rw [beq_iff_eq] at q; rw [q]; exact .head _
    | false => rw [q] at e; exact .tail _ (ih e)
structure CompOk (scope : Scope) (env : Env) (fr : List String) : Prop where
  kind : scope.kind = .function
  nocell : (scope.names.all fun y => y.2 != .cell) = true
  free : (scope.names.all fun y => y.2 != .free || (env.cells.lookup y.1).isSome) = true
  frf : (fr.all fun n => scope.names.lookup (Str.ofString n) == some .free) = true
  frk : (fr.all fun n => env.kindOf (Str.ofString n) != some .local) = true
  names : (scope.names.all fun x => x.2 != .local || scope.names.lookup x.1 == some .local) = true
  namesF : (scope.names.all fun x => x.2 != .free || (scope.names.lookup x.1 == some .free && fr.any fun n => Str.ofString n == x.1)) = true
section
variable {cx : Cx}
end
end Mine
namespace Mine
section
variable {cx : Cx}
end
end Mine
namespace Mine
/-- an index into a row of n, from behind if below nought -/
def idx (n : Nat) (k : Int) : Option Nat := if 0 ≤ k then (if k < n then some k.toNat else none) else (if 0 ≤ k + n then some (k + n).toNat else none)
theorem idx_lt {n : Nat} {k : Int} {j : Nat} (h : idx n k = some j) : j < n ∧ seqIndex? k n = some j ∧ ((0 ≤ k ∧ j = k.toNat ∧ k < n) ∨ (k < 0 ∧ j = (k + n).toNat ∧ 0 ≤ k + n)) := by
  unfold idx at h
  have key : j < n ∧ ((0 ≤ k ∧ j = k.toNat ∧ k < n) ∨ (k < 0 ∧ j = (k + n).toNat ∧ 0 ≤ k + n)) := by
    split at h
    · split at h
      · cases h; exact ⟨by omega, .inl ⟨by assumption, rfl, by assumption⟩⟩
      · cases h
    · split at h
      · cases h; exact ⟨by omega, .inr ⟨by omega, rfl, by assumption⟩⟩
      · cases h
  refine ⟨key.1, ?_, key.2⟩
  unfold seqIndex?
  rcases key.2 with ⟨h1, h2, h3⟩ | ⟨h1, h2, h3⟩
  · simp only [show ¬ k < 0 from by omega, if_false]
    rw [if_pos (by simp; omega), h2]
  · simp only [h1, if_true]
    rw [if_pos (by simp; omega), h2]
def itemP (st : St) (o i : V) : Option V := match o, i with
  | .obj j, .int k => (match st.sto[j]? with
    | some (.list xs) => if xs.length ≤ 1000000 then (idx xs.length k).bind (xs[·]?) else none
    | some (.tuple xs) => if xs.length ≤ 1000000 then (idx xs.length k).bind (xs[·]?) else none
    | _ => none)
  | .str l, .int k => if l.length ≤ 1000000 then (idx l.length k).bind fun j => (l[j]?).map fun c => .str [c] else none
  | _, _ => none
def pItem (o i : V) : PM V := fun st => match itemP st o i with | some v => .ok v st | none => .fail
/-- a cut of a row -/
def cutAt (n : Nat) (lo : Option Int) (d : Nat) : Nat := lo.elim d (clipAt n)
def cut {α : Type} (xs : List α) (lo hi : Option Int) : List α := (xs.drop (cutAt xs.length lo 0)).take (cutAt xs.length hi xs.length - cutAt xs.length lo 0)
def asPart : V → Option (Option Int)
  | .none => some none
  | .int i => some (some i)
  | _ => none
def sliceP (o l u : V) : PM V := fun st => match asPart l, asPart u with
  | some lo, some hi => (match o with
    | .obj j => (match st.sto[j]? with
      | some (.list xs) => if xs.length ≤ 1000000 then alloc (.list (cut xs lo hi)) st else .fail
      | _ => .fail)
    | .str s => if s.length ≤ 1000000 then .ok (.str (cut s lo hi)) st else .fail
    | _ => .fail)
  | _, _ => .fail
theorem vrs_cut {ρ : Map} {xs : List V} {Xs : List Value} (h : VRs ρ xs Xs) (lo hi : Option Int) : VRs ρ (cut xs lo hi) (cut Xs lo hi) := by
  unfold cut
  rw [← h.length]
  exact vrs_take _ (vrs_drop _ h)
theorem okS_cut {l : List Nat} (h : okS l) (lo hi : Option Int) : okS (cut l lo hi) := okS_take _ (okS_drop _ h)
section
variable {cx : Cx}
theorem isPart {ρ : Map} {v : V} {W : Value} {p : Option Int} (hv : VR ρ v W) (h : asPart v = some p) : IsPart W p := by
  unfold asPart at h
  split at h
  · cases h; cases vr_none hv; exact .none
  · cases h; obtain ⟨t, rfl⟩ := vr_int hv; exact .int _ t
  · cases h
theorem p_item (ok : cx.Ok) : P2 cx getItem pItem VR := by
  intro ρ hid st s x a A b B ha hb v st' h
  unfold pItem at h
  split at h
  · rename_i w e
    cases h
    unfold itemP at e
    split at e
    · rename_i j k
      obtain ⟨p, hp, rfl⟩ := vr_obj ha
      obtain ⟨t, rfl⟩ := vr_int hb
      obtain ⟨fz, led, m, mloc, x'⟩ := id x
      split at e
      · rename_i xs hi
        split at e
        · rename_i hl
          obtain ⟨j', hj, hv⟩ := Option.bind_eq_some_iff.mp e
          obtain ⟨Xs, n, g1, g2⟩ := x'.list_at hi hp
          obtain ⟨W, w1, w2⟩ := vrs_get g1 hv
          have hlen := g1.length
          have hl' : s.heap.IsList p.1 Xs.toArray := ⟨_, (x'.N _ g2).1, rfl, _, rfl⟩
          rcases (idx_lt hj).2.2 with ⟨k1, rfl, k3⟩ | ⟨k1, rfl, k3⟩
          · exact wpAny_getItem_list hl' k1 (by omega) (by simpa using w1) (fin_same x w2)
          · refine wpAny_getItem_list_neg hl' k1 (by rw [List.size_toArray]; omega) (by omega) ?_ (fin_same x w2)
            rw [List.size_toArray, ← hlen]
            simpa using w1
        · cases e
      · rename_i xs hi
        split at e
        · rename_i hl
          obtain ⟨j', hj, hv⟩ := Option.bind_eq_some_iff.mp e
          obtain ⟨Xs, n, g1, g2⟩ := x'.tuple_at hi hp
          obtain ⟨W, w1, w2⟩ := vrs_get g1 hv
          have hlen := g1.length
          obtain ⟨i1, i2, i3⟩ := idx_lt hj
          refine PySem.P.getItem_tuple (k := j') (y := W) (x'.N _ g2).1 ?_ ?_ (by rw [List.size_toArray, ← hlen]; exact i2) (by simpa using w1) (fin_same x w2)
          · rcases i3 with h | h <;> omega
          · rcases i3 with h | h <;> omega
        · cases e
      · cases e
    · rename_i l k
      have hok := vr_ok ha
      obtain ⟨t, rfl⟩ := vr_str ha
      obtain ⟨u, rfl⟩ := vr_int hb
      split at e
      · rename_i hl
        obtain ⟨j', hj, hv⟩ := Option.bind_eq_some_iff.mp e
        obtain ⟨c, hc, rfl⟩ := Option.map_eq_some_iff.mp hv
        obtain ⟨i1, i2, i3⟩ := idx_lt hj
        have hoc : okS [c] := fun d hd => by rw [List.mem_singleton.mp hd]; exact hok c (List.mem_of_getElem? hc)
        refine PyProof.Rows.getItem_str (c := c) ?_ ?_ (fin_toks x (.str [c] _ hoc))
        · rcases i3 with h | h <;> simp <;> omega
        · rw [str_len, i2]; simpa using hc
      · cases e
    · cases e
  · cases h
/-- a built-in container's type, for a subscript -/
theorem plain_sub {ρ : Map} {hid : Hd} {st : St} {s : Shared} (x : Rel cx ρ hid st s) {o : V} {A : Value} (ha : VR ρ o A) (hk : (∃ j xs, o = .obj j ∧ (st.sto[j]? = some (.list xs) ∨ st.sto[j]? = some (.tuple xs))) ∨ ∃ l, o = .str l) :
    ∃ T bid, s.TypeIs A T ∧ typeLookup (.type T) "__getitem__" = pure (some (.builtin bid)) := by
  rcases hk with ⟨j, xs, rfl, h | h⟩ | ⟨l, rfl⟩
  · obtain ⟨p, hp, rfl⟩ := vr_obj ha
    obtain ⟨fz, led, m, mloc, x'⟩ := x
    obtain ⟨Xs, n, g1, g2⟩ := x'.list_at h hp
    exact ⟨_, _, ⟨_, (x'.N _ g2).1, rfl⟩, PySem.F.slot_list_getitem.lookup⟩
  · obtain ⟨p, hp, rfl⟩ := vr_obj ha
    obtain ⟨fz, led, m, mloc, x'⟩ := x
    obtain ⟨Xs, n, g1, g2⟩ := x'.tuple_at h hp
    exact ⟨_, _, ⟨_, (x'.N _ g2).1, rfl⟩, PySem.F.slot_tuple_getitem.lookup⟩
  · obtain ⟨t, rfl⟩ := vr_str ha
    exact ⟨_, _, typeIs_str _ _ _, PySem.F.slot_str_getitem.lookup⟩
theorem itemP_kind {st : St} {o i v : V} (h : itemP st o i = some v) : (∃ j xs, o = .obj j ∧ (st.sto[j]? = some (.list xs) ∨ st.sto[j]? = some (.tuple xs))) ∨ ∃ l, o = .str l := by
  unfold itemP at h
  split at h
  · split at h
    · exact .inl ⟨_, _, rfl, .inl (by assumption)⟩
    · exact .inl ⟨_, _, rfl, .inr (by assumption)⟩
    · cases h
  · exact .inr ⟨_, rfl⟩
  · cases h
theorem sim_Subscript (ok : cx.Ok) {value slice : Expr} {pos : Pos} {mo mi : PM V} (ho : SimV cx (eval value cx.env) mo) (hi : SimV cx (eval slice cx.env) mi) (hs : ∀ o i, subscripted slice false o i = operate [o, i] (getItem o i)) :
    SimV cx (eval (.Subscript value slice pos) cx.env) (PM.bind mo fun o => PM.bind mi fun i => pItem o i) := by
  intro ρ hid st s x v st' h
  obtain ⟨a, st1, e1, h1⟩ := bind_ok h
  obtain ⟨b, st2, e2, h2⟩ := bind_ok h1
  refine Subscript_ (wp_seq (ho ρ hid st s x a st1 e1) fun A s1 ρ1 p1 r1 v1 => wp_seq (hi ρ1 hid st1 s1 r1 b st2 e2) fun B s2 ρ2 p2 r2 v2 => ?_)
  have hk : itemP st2 a b = some v := by
    unfold pItem at h2
    split at h2
    · rename_i e; cases h2; exact e
    · cases h2
  obtain ⟨T, bid, hT, hl⟩ := plain_sub r2 (v1.mono p2) (itemP_kind hk)
  exact tail_any hT hl (wp_seq (p_item ok ρ2 hid st2 s2 r2 a A b B (v1.mono p2) v2 v st' h2) fun W s3 ρ3 p3 r3 v3 => ⟨ρ3, pre_trans p1 (pre_trans p2 p3), r3, v3⟩) (hs A B)
theorem strSlice_eq (l : List Nat) (lo hi : Option Int) : ((Builtin.Str.strSliceIndices lo hi 1 l.length).filterMap (l[·]?)) = cut l lo hi := by
  have e : Builtin.Str.strSliceIndices lo hi 1 l.length = sliceRange (sliceBounds lo hi none l.length).1 (sliceBounds lo hi none l.length).2.1 (sliceBounds lo hi none l.length).2.2 := by
    unfold Builtin.Str.strSliceIndices sliceBounds
    cases lo <;> cases hi <;> rfl
  rw [e, sliceBounds_plain]
  unfold cut cutAt
  simp only [sliceRange_one]
  have := pick_run l.toArray (lo.elim 0 (clipAt l.length)) (hi.elim l.length (clipAt l.length) - lo.elim 0 (clipAt l.length))
  simpa using this
theorem partOf {W : Value} {p : Option Int} (h : IsPart W p) : ∃ q : Option (Int × Tok), partValue q = W ∧ q.map (·.1) = p := by
  cases h with
  | none => exact ⟨none, rfl, rfl⟩
  | int i t => exact ⟨some (i, t), rfl, rfl⟩
theorem cut_whole {l : List Nat} {lo hi : Option Int} (h : (Builtin.Str.strSliceIndices lo hi 1 l.length).length = l.length) : cut l lo hi = l := by
  have e := strSlice_eq l lo hi
  have e2 : Builtin.Str.strSliceIndices lo hi 1 l.length = (List.range (cutAt l.length hi l.length - cutAt l.length lo 0)).map (cutAt l.length lo 0 + ·) := by
    have e : Builtin.Str.strSliceIndices lo hi 1 l.length = sliceRange (sliceBounds lo hi none l.length).1 (sliceBounds lo hi none l.length).2.1 (sliceBounds lo hi none l.length).2.2 := by
      unfold Builtin.Str.strSliceIndices sliceBounds
      cases lo <;> cases hi <;> rfl
    rw [e, sliceBounds_plain]
    unfold cutAt
    simp only [sliceRange_one]
  rw [e2, List.length_map, List.length_range] at h
  unfold cut
  have hle : cutAt l.length hi l.length ≤ l.length := by
    unfold cutAt
    cases hi with
    | none => exact Nat.le_refl _
    | some i => show clipAt l.length i ≤ l.length; unfold clipAt; omega
  by_cases hz : l.length = 0
  · rw [List.length_eq_zero_iff.mp hz]; simp
  · have h0 : cutAt l.length lo 0 = 0 := by omega
    rw [h, h0]; simp
/-- an optional part of a slice -/
abbrev SimO (cx : Cx) (o : Option Expr) (m : PM V) : Prop := SimV cx (valueOrNone (evalOpt o cx.env)) m
theorem sim_part_none : SimO cx none (PM.pure .none) := by
  intro ρ hid st s x v st' h; cases h
  exact wpAny_pure ⟨ρ, pre_refl ρ, x, .none⟩
theorem sim_part_some {e : Expr} {m : PM V} (h : SimV cx (eval e cx.env) m) : SimO cx (some e) m := h
theorem sim_Slice {value : Expr} {lo up : Option Expr} {sp pos : Pos} {mo ml mu : PM V} (ho : SimV cx (eval value cx.env) mo) (hl : SimO cx lo ml) (hu : SimO cx up mu) :
    SimV cx (eval (.Subscript value (.Slice lo up none sp) pos) cx.env) (PM.bind mo fun o => PM.bind ml fun l => PM.bind mu fun u => sliceP o l u) := by
  intro ρ hid st s x v st' h
  obtain ⟨a, st1, e1, h1⟩ := bind_ok h
  obtain ⟨b, st2, e2, h2⟩ := bind_ok h1
  obtain ⟨c, st3, e3, h3⟩ := bind_ok h2
  refine Subscript_ (wp_seq (ho ρ hid st s x a st1 e1) fun A s1 ρ1 p1 r1 v1 => ?_)
  rw [arm_eval_Slice]
  refine wpAny_bind (wp_seq (hl ρ1 hid st1 s1 r1 b st2 e2) fun B s2 ρ2 p2 r2 v2 => wpAny_bind (wpAny_holding (wp_seq (hu ρ2 hid st2 s2 r2 c st3 e3) fun C s3 ρ3 p3 r3 v3 => wpAny_bind (wpAny_holding (wpAny_pure ?_)))))
  refine wpAny_newObj_type ?_ (by size_fits)
  have pp := pre_trans p1 (pre_trans p2 p3)
  have va := v1.mono (pre_trans p2 p3)
  have vb := v2.mono p3
  unfold sliceP at h3
  split at h3
  · rename_i lo' hi' q1 q2
    have P1 := isPart vb q1
    have P2 := isPart v3 q2
    split at h3
    · rename_i j
      obtain ⟨p, hp, rfl⟩ := vr_obj va
      split at h3
      · rename_i xs hj
        split at h3
        · rename_i hlen
          cases h3
          obtain ⟨fz, led, m, mloc, r3'⟩ := id r3
          obtain ⟨Xs, n, g1, g2⟩ := r3'.list_at hj hp
          have hln := g1.length
          have hlp : (s3.heap.push { cls := .type "slice", data := .fields #[B, C, .none] }).IsList p.1 Xs.toArray := ⟨_, Heap.get?_push_of_some _ (r3'.N _ g2).1, rfl, _, rfl⟩
          have rg := rel_garbage r3 (ob := { cls := .type "slice", data := .fields #[B, C, .none] }) (tk := s3.toks) rfl
          refine tail_any (T := "list") ⟨_, Heap.get?_push_of_some _ (r3'.N _ g2).1, rfl⟩ PySem.F.slot_list_getitem.lookup ?_ (by with_unfolding_all rfl)
          refine wpAny_getItem_list_slice hlp (Heap.IsSliceOf.new ..) P1 P2 .none (by simp) ?_ (by rw [List.size_toArray, ← hln]; exact list_fits hlen)
          have e : slicePick Xs.toArray lo' hi' none = (cut Xs lo' hi').toArray := by
            rw [slicePick_plain]; unfold cut cutAt; simp
          rw [e]
          obtain ⟨r4, v4⟩ := rel_push rg (ob := listObj (cut Xs lo' hi') 0) (o := .list (cut xs lo' hi')) (tk := s3.toks) rfl fun fz led => ⟨_, 0, (vrs_cut g1 lo' hi').mono (List.prefix_append _ _), .head _⟩
          exact ⟨_, pre_trans pp (List.prefix_append _ _), r4, v4⟩
        · cases h3
      · cases h3
    · rename_i l
      have hok := vr_ok va
      obtain ⟨t, rfl⟩ := vr_str va
      split at h3
      · rename_i hlen
        cases h3
        have rg := rel_garbage r3 (ob := { cls := .type "slice", data := .fields #[B, C, .none] }) (tk := s3.toks) rfl
        obtain ⟨lb, hlb1, hlb2⟩ := partOf P1
        obtain ⟨ub, hub1, hub2⟩ := partOf P2
        refine tail_any (typeIs_str _ _ _) PySem.F.slot_str_getitem.lookup ?_ (by with_unfolding_all rfl)
        refine wpAny_getItem_str_slice (l := lb) (u := ub) (st := none) ⟨_, Heap.get?_push_size _ rfl, rfl, by rw [hlb1, hub1]; rfl⟩ rfl ?_
        have hp : slicePicked ⟨l.toArray⟩ lb ub none = Builtin.Str.strSliceIndices lo' hi' 1 l.length := by
          unfold slicePicked
          rw [hlb2, hub2, str_len]; rfl
        have hc : ((slicePicked ⟨l.toArray⟩ lb ub none).filterMap ((⟨l.toArray⟩ : Str).cps[·]?)) = cut l lo' hi' := by
          rw [hp, ← strSlice_eq]
          simp
        have hokc := okS_cut hok lo' hi'
        unfold sliceMade
        rw [hc]
        split
        · rename_i hq
          have hlen2 : (slicePicked ⟨l.toArray⟩ lb ub none).length = l.length := by
            rw [Bool.and_eq_true] at hq
            have := hq.2
            rw [beq_iff_eq, str_len] at this
            exact this
          have heq : cut l lo' hi' = l := cut_whole (by rw [← hp]; exact hlen2)
          refine ⟨ρ3, pp, rg, ?_⟩
          rw [heq]
          exact .str l t hok
        · refine ⟨?_, ρ3, pp, rg.toks _, .str _ _ hokc⟩
          rw [str_len]
          unfold cut
          rw [List.length_take, List.length_drop]
          have := list_fits hlen
          omega
      · cases h3
    · cases h3
  · cases h3
end
end Mine
namespace Mine
section
variable {cx : Cx}
/-- a tuple taken apart -/
def asgAll : List (V → PM Unit) → List V → PM Unit
  | [], [] => PM.pure ()
  | g :: gs, v :: vs => PM.bind (g v) fun _ => asgAll gs vs
  | _, _ => PM.fail
structure SimGs (cx : Cx) (elts : List Expr) (gs : List (V → PM Unit)) : Prop where
  len : (assignEach elts cx.env).length = gs.length
  star : (assignEach elts cx.env).findIdx? (·.1) = none
  run : PL cx (fun Vs => assignInOrder ((assignEach elts cx.env).map (·.2)) Vs) (asgAll gs) UR
end
end Mine
namespace Mine
section
variable {cx : Cx}
theorem str_toArr_nil {l : List Nat} (h : ((⟨l.toArray⟩ : Str).length == 0) = true) : l = [] := by
  rw [str_len] at h
  cases l with
  | nil => rfl
  | cons a r => simp at h
theorem str_made {x y : List Nat} {t u : Tok} {s : Shared} {Q : Value → Shared → Prop} (hl : x.length + y.length ≤ 1000000) (h : ∀ t' tk, Q (.str ⟨(x ++ y).toArray⟩ t') { s with toks := tk }) :
    (if (⟨x.toArray⟩ : Str).length == 0 then Made.val (.str ⟨y.toArray⟩ u) else if (⟨y.toArray⟩ : Str).length == 0 then Made.val (.str ⟨x.toArray⟩ t) else Made.str ((⟨x.toArray⟩ : Str) ++ (⟨y.toArray⟩ : Str))).post Q s := by
  split
  · rename_i e
    cases str_toArr_nil e
    exact h u s.toks
  · split
    · rename_i e
      cases str_toArr_nil e
      have := h t s.toks
      rw [List.append_nil] at this
      exact this
    · rw [str_app]
      refine ⟨?_, h s.toks _⟩
      rw [str_len, List.length_append]
      exact Nat.le_trans hl (by decide)
theorem p_add : P2 cx (binaryOp .Add) pAdd VR := by
  intro ρ hid st s x a A b B ha hb v st' h
  unfold pAdd at h
  split at h
  · obtain ⟨t, rfl⟩ := vr_int ha; obtain ⟨u, rfl⟩ := vr_int hb
    cases h
    exact PyProof.Rows.add_int (fin_toks x (.int _ _))
  · rename_i p q
    have hp := vr_ok ha; have hq := vr_ok hb
    obtain ⟨t, rfl⟩ := vr_str ha; obtain ⟨u, rfl⟩ := vr_str hb
    split at h
    · rename_i hl
      cases h
      exact lf x.pos (PySem.P.add_str (str_made hl fun t' tk htk => fin_toks x (.str _ t' (okS_append hp hq))))
    · cases h
  · rename_i i j
    obtain ⟨p, hp, rfl⟩ := vr_obj ha; obtain ⟨q, hq, rfl⟩ := vr_obj hb
    split at h
    · rename_i xs ys e1 e2
      obtain ⟨fz, led, m, mloc, r⟩ := id x
      obtain ⟨Xs, n1, v1, m1⟩ := r.list_at e1 hp
      obtain ⟨Ys, n2, v2, m2⟩ := r.list_at e2 hq
      unfold allocList at h
      split at h
      · rename_i hl
        cases h
        refine PyProof.Rows.add_lists r.F r.N (News.isList r.N m1) (News.isList r.N m2) (fun h' F' N' => ?_) ?_
        · refine ⟨ρ ++ [(s.heap.objs.size, s.heap.objs.size)], List.prefix_append _ _, RelD.rel (r.go (tk := s.toks) F' N' (r.B.alloc (news_fresh r.N) (o := .list (xs ++ ys)) ⟨Xs ++ Ys, 0, (vrs_append v1 v2).mono (List.prefix_append _ _), .head _⟩)), ?_⟩
          have := VR.obj (alloc_get ρ (s.heap.objs.size, s.heap.objs.size))
          rw [r.B.len] at this
          exact this
        · rw [← vrs_length v1, ← vrs_length v2, ← List.length_append]
          exact Nat.le_trans hl (by decide)
      · cases h
    · cases h
  · cases h
/-- += on names: ints and texts -/
def pIAdd : V → V → PM V
  | .int a, .int b => PM.pure (.int (a + b))
  | .str a, .str b => fun st => if a.length + b.length ≤ 1000000 then .ok (.str (a ++ b)) st else .fail
  | _, _ => PM.fail
theorem p_iadd : P2 cx (inplaceOp .Add) pIAdd VR := by
  intro ρ hid st s x a A b B ha hb v st' h
  unfold pIAdd at h
  split at h
  · obtain ⟨t, rfl⟩ := vr_int ha; obtain ⟨u, rfl⟩ := vr_int hb
    cases h
    exact PyProof.Rows.iadd_int (fin_toks x (.int _ _))
  · rename_i p q
    have hp := vr_ok ha; have hq := vr_ok hb
    obtain ⟨t, rfl⟩ := vr_str ha; obtain ⟨u, rfl⟩ := vr_str hb
    split at h
    · rename_i hl
      cases h
      exact lf x.pos (PySem.P.iadd_str (str_made hl fun t' tk htk => fin_toks x (.str _ t' (okS_append hp hq))))
    · cases h
  · cases h
/-- range of one, two, three ints -/
def cRange : List V → PM V
  | [.int n] => alloc (.range 0 n 1)
  | [.int a, .int b] => alloc (.range a b 1)
  | _ => PM.fail
theorem pc_range : PC cx (.type "range") cRange := by
  intro ρ hid st s x vs Vs hv v st' h
  unfold cRange at h
  split at h
  · obtain ⟨A, rfl, a1⟩ := vrs_one hv
    obtain ⟨t, rfl⟩ := vr_int a1
    cases h
    obtain ⟨r1, r2⟩ := rel_push (tk := s.toks + 1 + 1) x (ob := { cls := .type "range", data := .fields #[.int 0 s.toks, .int _ t, .int 1 (s.toks + 1)] }) (o := .range 0 _ 1) rfl fun fz led => ⟨_, _, _, .int _ _, .int _ _, .int _ _, .head _⟩
    exact call_range_1 ⟨_, List.prefix_append _ _, r1, r2⟩
  · obtain ⟨A, B, rfl, a1, a2⟩ := vrs_two hv
    obtain ⟨t, rfl⟩ := vr_int a1; obtain ⟨u, rfl⟩ := vr_int a2
    cases h
    obtain ⟨r1, r2⟩ := rel_push (tk := s.toks + 1) x (ob := { cls := .type "range", data := .fields #[.int _ t, .int _ u, .int 1 s.toks] }) (o := .range _ _ 1) rfl fun fz led => ⟨_, _, _, .int _ _, .int _ _, .int _ _, .head _⟩
    exact call_range_2 ⟨_, List.prefix_append _ _, r1, r2⟩
  · cases h
/-- the small forms of the signs that we know -/
def lowP (c : Nat) : Nat := if 65 ≤ c ∧ c ≤ 90 then c + 32 else if c = 201 then 233 else if c = 1046 then 1078 else if c = 7838 then 223 else if c = 8490 then 107 else c
def joinL (sep : List Nat) : List (List Nat) → List Nat
  | [] => []
  | [x] => x
  | x :: r => x ++ sep ++ joinL sep r
def strsOf : List V → Option (List (List Nat))
  | [] => some []
  | .str l :: r => (strsOf r).map (l :: ·)
  | _ => none
theorem strsOf_eq : ∀ {vs : List V} {ls : List (List Nat)}, strsOf vs = some ls → vs = ls.map V.str
  | [], ls, h => by cases h; rfl
  | .str l :: r, ls, h => by
    unfold strsOf at h
    obtain ⟨x, hx, rfl⟩ := Option.map_eq_some_iff.mp h
    rw [strsOf_eq hx]; rfl
  | .none :: _, _, h => by cases h
  | .bool _ :: _, _, h => by cases h
  | .int _ :: _, _, h => by cases h
  | .byt _ :: _, _, h => by cases h
  | .obj _ :: _, _, h => by cases h
  | .glob _ :: _, _, h => by cases h
theorem strsOf_map : ∀ ls : List (List Nat), strsOf (ls.map V.str) = some ls
  | [] => rfl
  | l :: r => by rw [List.map_cons, strsOf, strsOf_map r]; rfl
def cJoin : List V → PM V
  | [.str sep, .obj j] => fun st => match st.sto[j]? with
    | some (.list xs) => (match strsOf xs with
      | some ls => if (ls.map (·.length)).sum + ls.length ≤ 1000000 ∧ sep.length ≤ 16 then .ok (.str (joinL sep ls)) st else .fail
      | none => .fail)
    | _ => .fail
  | _ => PM.fail
theorem join_eq (sep : List Nat) : ∀ ls : List (List Nat), Str.join ⟨sep.toArray⟩ (ls.map fun p => ⟨p.toArray⟩) = ⟨(joinL sep ls).toArray⟩
  | [] => rfl
  | [x] => rfl
  | x :: y :: r => by
    have ih := join_eq sep (y :: r)
    show ((⟨x.toArray⟩ : Str) ++ (⟨sep.toArray⟩ : Str)) ++ Str.join ⟨sep.toArray⟩ ((y :: r).map fun p => ⟨p.toArray⟩) = _
    rw [ih, str_app, str_app]
    rfl
theorem okS_join {sep : List Nat} (hs : okS sep) : ∀ {ls : List (List Nat)}, (∀ l ∈ ls, okS l) → okS (joinL sep ls)
  | [], _ => fun c hc => by cases hc
  | [x], h => h x (.head _)
  | x :: y :: r, h => okS_append (okS_append (h x (.head _)) hs) (okS_join hs fun l hl => h l (.tail _ hl))
theorem vrs_texts {ρ : Map} : ∀ {ls : List (List Nat)} {Vs : List Value}, VRs ρ (ls.map V.str) Vs → ∃ q : List (Str × Tok), Vs = strValues q ∧ q.map (·.1) = ls.map (fun p => (⟨p.toArray⟩ : Str)) ∧ ∀ l ∈ ls, okS l
  | [], _, .nil => ⟨[], rfl, rfl, fun l hl => by cases hl⟩
  | l :: ls, _, .cons x t => by
    obtain ⟨q, rfl, e, o⟩ := vrs_texts t
    have ho := vr_ok x
    obtain ⟨u, rfl⟩ := vr_str x
    refine ⟨(⟨l.toArray⟩, u) :: q, rfl, ?_, ?_⟩
    · rw [List.map_cons, List.map_cons, e]
    · intro z hz
      rcases List.mem_cons.mp hz with rfl | hz
      · exact ho
      · exact o z hz
theorem pc_join : PC cx (.builtin "str.join") cJoin := by
  intro ρ hid st s x vs Vs hv v st' h
  unfold cJoin at h
  split at h
  · rename_i sep j
    obtain ⟨A, B, rfl, a1, a2⟩ := vrs_two hv
    have hs' := vr_ok a1
    obtain ⟨t, rfl⟩ := vr_str a1; obtain ⟨p, hp, rfl⟩ := vr_obj a2
    split at h
    · rename_i xs hj
      split at h
      · rename_i ls hls
        split at h
        · rename_i hb
          cases h
          obtain ⟨fz, led, m, mloc, r⟩ := id x
          obtain ⟨Xs, n1, v1, m1⟩ := r.list_at hj hp
          rw [strsOf_eq hls] at v1
          obtain ⟨q, rfl, e, ho⟩ := vrs_texts v1
          refine lf x.pos (SC.join (News.isList r.N m1) e ?_ fun t' k htk => ?_)
          · refine joinOk_of_weight ?_ ?_
            · have : (ls.map fun p => (⟨p.toArray⟩ : Str)).map (·.length) = ls.map (·.length) := by
                rw [List.map_map]
                refine List.map_congr_left fun a _ => ?_
                exact str_len a
              rw [this, List.length_map]
              have := hb.1
              omega
            · rw [str_len]; exact hb.2
          · have : Txt.join ⟨sep.toArray⟩ (ls.map fun p => (⟨p.toArray⟩ : Str)) = ⟨(joinL sep ls).toArray⟩ := (StrLaws.glued_eq_join _ _).trans (join_eq sep ls)
            rw [this]
            exact fin_toks x (.str _ t' (okS_join hs' ho))
        · cases h
      · cases h
    · cases h
  · cases h
end
end Mine
namespace Mine
section
variable {cx : Cx}
/-- the law's own argument: a list of ints that stood before -/
def Old (cx : Cx) (a : Addr) (xs : List Int) : Prop := ∃ Vs : List Value, cx.h₀.IsList a Vs.toArray ∧ IntsAre Vs xs
theorem ints_vrs {ρ : Map} : ∀ {Vs : List Value} {xs : List Int}, IntsAre Vs xs → VRs ρ (xs.map V.int) Vs
  | _, _, .nil => .nil
  | _, _, .cons _ _ t => .cons (.int _ _) (ints_vrs t)
theorem isList_keep {h h' : Heap} {a : Addr} {vs : Array Value} (x : h.IsList a vs) (k : ∀ b o, h.get? b = some o → h'.get? b = some o) : h'.IsList a vs := by
  obtain ⟨o, ho, r⟩ := x
  exact ⟨o, k _ _ ho, r⟩
theorem envOfC_inj {qual : Str} {scope : Scope} {f : Addr} {cdv : Value} {L' : Addr} (x y : Str) (c : Addr) (hx : (envOfC qual scope L' f cdv).cells.lookup x = some c) (hy : (envOfC qual scope L' f cdv).cells.lookup y = some c) : x = y := by
  have h := (cellsFrom_addr scope.names (L' + 1) [] (fun _ h => nomatch h) .nil).1
  have h1 := lookup_mem (l := cellsFrom (L' + 1) scope.names []) hx
  have h2 := lookup_mem (l := cellsFrom (L' + 1) scope.names []) hy
  generalize cellsFrom (L' + 1) scope.names [] = l at h h1 h2
  induction l with
  | nil => cases h1
  | cons a r ih =>
    rw [List.map_cons, List.nodup_cons] at h
    rcases List.mem_cons.mp h1 with e | e <;> rcases List.mem_cons.mp h2 with e' | e'
    · exact (Prod.mk.inj (e.trans e'.symm)).1
    · exact absurd (List.mem_map_of_mem (f := (·.2)) e') (by rw [← e] at h; exact h.1)
    · exact absurd (List.mem_map_of_mem (f := (·.2)) e) (by rw [← e'] at h; exact h.1)
    · exact ih h.2 e e'
def iterG (a : Addr) (xs : List Int) : V → PM (Src × List V)
  | .glob (.ref b) => if b = a then PM.pure (none, xs.map V.int) else PM.fail
  | _ => PM.fail
/-- the first env of all: one parameter, no cell; the tokens that stand then are not none -/
theorem newEnv_one {M : Model} {A : Around} {E : Value → Shared → Prop} {s : Shared} {scope : Scope} {globals : Addr} {n : Str} {v : Value} {qual : Str} {func : Option Addr} {code : Value} {builtins : Addr} {Q : Env → Shared → Prop}
    (hk : scope.kind = .function) (hl : scope.names.lookup n = some .local)
    (hQ : ∀ env, env = newEnv scope s.heap.objs.size globals (cellsFrom (s.heap.objs.size + 1) scope.names []) qual func code none builtins →
      ∀ s', InCallC s env.locals (bindL env.kindOf [(n, v)] fun _ => none) env.cells (bindC env.kindOf [(n, v)] fun _ => none) s' → 0 < s'.toks → Q env s') :
    wpAny M A (newFunctionEnv scope globals [] [(n, v)] qual func code none builtins) Q E s := by
  simp only [newFunctionEnv, Option.isSome_none, Bool.false_eq_true, if_false]
  refine wpAny_bind (wpAny_alloc ?_)
  refine wpAny_bind (wpAny_layCells _ (fun name kind cells => by cases hkc : kind == NameKind.cell <;> simp [hkc]) _ _ _ _ ?_)
  have ok := cellsFrom_ok scope.names (s.heap.push { cls := .type "frame", data := .dict #[] }) (s.heap.objs.size + 1) [] ⟨fun _ _ hm => (nomatch hm), List.Pairwise.nil⟩ (by rw [Heap.size_push]; exact Nat.le_refl _)
  rw [Heap.size_push] at ok
  rw [show ({ s with heap := s.heap.push { cls := .type "frame", data := .dict #[] } } : Shared).heap.objs.size = s.heap.objs.size + 1 from Heap.size_push ..]
  have x : InCallC s (newEnv scope s.heap.objs.size globals (cellsFrom (s.heap.objs.size + 1) scope.names []) qual func code none builtins).locals (fun _ => none) (newEnv scope s.heap.objs.size globals (cellsFrom (s.heap.objs.size + 1) scope.names []) qual func code none builtins).cells (fun _ => none)
      { s with heap := pushCells (s.heap.push { cls := .type "frame", data := .dict #[] }) scope.names } :=
    ⟨⟨⟨_, _, rfl⟩, (Heap.Ns.new s.heap (.type "frame")).keeps (pushCells_keeps _ _), fun b o e => pushCells_keeps _ _ b o (Heap.get?_push_of_some _ e), Nat.le_refl _⟩,
      fun n c hc => (ok.empty n c (mem_of_lookup hc)).1, ok.apart, fun n c hm => (ok.empty n c hm).2⟩
  refine wpAny_bind ?_
  rw [List.forIn_cons]
  refine wpAny_bind (wpAny_bind (wpAny_storeName_local hl x.toInCall.ns (fun h' hn' hs' => wpAny_pure ?_) (by dsimp only; rw [hk]; rfl)))
  refine wpAny_pure (wpAny_pure (hQ _ rfl _ ⟨⟨⟨_, _, rfl⟩, ?_, fun b o e => ?_, x.toInCall.fresh⟩, fun k c hc => ?_, x.apart, x.above⟩ (Nat.succ_pos _)))
  · unfold bindL bindL
    rw [if_pos (show (newEnv scope s.heap.objs.size globals (cellsFrom (s.heap.objs.size + 1) scope.names []) qual func code none builtins).kindOf n = _ from hl)]
    exact hn'
  · exact hs'.extBut b o (Nat.ne_of_lt (Nat.lt_of_lt_of_le (Heap.lt_size e) x.toInCall.fresh)) (x.toInCall.keep b o e)
  · unfold bindC bindC
    rw [if_pos (show (newEnv scope s.heap.objs.size globals (cellsFrom (s.heap.objs.size + 1) scope.names []) qual func code none builtins).kindOf n = _ from hl)]
    exact (x.cell k c hc).sameBut hs' (Nat.ne_of_gt (x.above k c (mem_of_lookup hc)))
theorem call_first {prog : Program} {w : World} {A : Around} {R : Result → Shared → Prop} {s : Shared} {fd : FuncData} {body : List Stmt} {f : Addr} {fo : Obj} {args : Args} {n : Str} {v : Value}
    (hroom : A.depth < recursionLimit) (ho : s.heap.get? f = some fo) (hd : fo.data = .func fd) (hbd : fd.body = .stmts body) (hcl : fd.closure = []) (hgl : fd.globals = mainGlobals) (hbn : fd.builtins = builtinsNs) (hlim : s.heap.NoLimit) (hcd : s.heap.CodeRec fd.code fd.qualname)
    (hbind : bindArgs fd args = pure [(n, v)]) (hkind : fd.scope.names.lookup n = some .local)
    (hnd : ((cellsFrom 0 fd.scope.names []).map (·.1)).Nodup)
    (h : ∀ h₁ tk cells, 0 < tk → Fr s.heap s.heap.objs.size h₁ (bindL (envOfC fd.qualname fd.scope s.heap.objs.size f fd.code).kindOf [(n, v)] fun _ => none) → News s.heap s.heap.objs.size h₁ cells →
      CellsAre (bindC (envOfC fd.qualname fd.scope s.heap.objs.size f fd.code).kindOf [(n, v)] fun _ => none) (cellsFrom (s.heap.objs.size + 1) fd.scope.names []) cells →
      wpAny (model prog w) (A.deeper (envOfC fd.qualname fd.scope s.heap.objs.size f fd.code)) (execs body (envOfC fd.qualname fd.scope s.heap.objs.size f fd.code))
        (fun fl s' => R (.ok (.ret (match fl with | .ret v => v | _ => .none))) s') (fun _ _ => False) { s with heap := h₁, toks := tk })
    (hco : fd.scope.isCoroutine = false) (hgen : fd.scope.isGenerator = false) (hk : fd.scope.kind = .function) : codeAny (model prog w) A (.call (.ref f) args) R s := by
  obtain ⟨name, qualname, params, bd, scope, globals, closure, defaults, kwdefaults, doc, pyModule, annotations, code, closureTuple, builtins⟩ := fd
  dsimp only at *
  subst hbd hcl hgl hbn
  refine codeAny_call_function hroom ho hd hco hgen rfl hcd ?_
  rw [hbind]
  refine wpAny_pure (newEnv_one hk hkind fun env' he s' x htk => ?_)
  subst he
  refine ⟨hlim.keeps x.toInCall.keep, codeAny_func ?_⟩
  obtain ⟨h₁, tk, rfl, _⟩ := x.done
  obtain ⟨cells, NC, Y⟩ := Cl.news (h₀ := s.heap) (Nat.le_refl _) fun n c hm => ⟨x.cell n c (lookup_of_mem_nodup (cellsFrom_names scope.names 0 (s.heap.objs.size + 1) [] [] rfl ▸ hnd) hm), x.above n c hm⟩
  exact wpAny_mono (h h₁ tk cells htk ⟨x.toInCall.ns, x.toInCall.keep, Nat.le_refl _⟩ NC Y) (fun fl s' hl => hl) fun _ _ y => y.elim
/-- no function is made in the law's texts -/
def lam0 : FuncBody × Arguments × Scope × Str := ⟨.stmts [], ⟨[], [], none, [], [], none, []⟩, ⟨.function, [], false, false, []⟩, Str.ofString ""⟩
/-- the first place: a law called by the claim's caller -/
abbrev cxOf (prog : Program) (w : World) (K : Frag) (C : Addr) (p : Program) (loose : List Str) (mg mb : Str → Option Value) (s : Shared) (env : Env) (n : Nat) : Cx :=
  { prog, w, K, C, p, loose, mg, mb, h₀ := s.heap, L := s.heap.objs.size, A := callerA.deeper env, fenv := env, env, base := s.heap, outer := [], os := s.os, n, fm := fun _ => none, fzn := false, lam := lam0, tab := (0, #[], ⟨0, 0, 0, 0⟩) }
theorem enter_law {prog : Program} {w : World} {K : Frag} {C : Addr} {p : Program} {loose : List Str} {mg mb : Str → Option Value} {s : Shared} {name : Str} {params : Arguments} {body : List Stmt} {scope : Scope} {pm cd doc : Value} {fa a : Addr} {o : Obj} {n : Nat}
    {mbody : PM Fl} {R : Result → Shared → Prop} {Vs : List Value} {xs : List Int}
    (hn : n ≤ 100) (T : TopRead p loose mg mb s.heap) (hBM : BM mg s.heap) (kin : K.In s.heap) (ho : s.heap.get? fa = some o) (hd : o.data = .func (Calls.docDef name params body scope pm cd doc)) (hcd : s.heap.CodeRec cd name) (hg : s.gens = #[])
    (hl : s.heap.IsList a Vs.toArray) (hI : IntsAre Vs xs)
    (hbind : bindArgs (Calls.docDef name params body scope pm cd doc) ⟨[.ref a], []⟩ = pure [(Str.ofString "script", .ref a)])
    (hkind : scope.names.lookup (Str.ofString "script") = some .local) (hnd : ((cellsFrom 0 scope.names []).map (·.1)).Nodup)
    (hco : scope.isCoroutine = false) (hgen : scope.isGenerator = false) (hk : scope.kind = .function)
    (hbody : (cxOf prog w K C p loose mg mb s (envOfC name scope s.heap.objs.size fa cd) n).Ok → Old (cxOf prog w K C p loose mg mb s (envOfC name scope s.heap.objs.size fa cd) n) a xs →
      SimSs (cxOf prog w K C p loose mg mb s (envOfC name scope s.heap.objs.size fa cd) n) body mbody)
    (hrun : ∃ st', mbody ⟨fun k => if k = "script" then some (.glob (.ref a)) else none, []⟩ = .ok (.ret (.bool true)) st')
    (hR : ∀ s', (∃ L m, Fr s.heap L s'.heap m) → s'.gens = #[] → s'.os = s.os → R (.ok (.ret (.bool true))) s') : codeAny (model prog w) callerA (.call (.ref fa) ⟨[.ref a], []⟩) R s := by
  obtain ⟨st', hrun⟩ := hrun
  refine call_first (by decide) ho hd rfl rfl rfl rfl T.nolimit hcd hbind hkind hnd (fun h₁ tk cells htk F' N' C' => ?_) hco hgen hk
  · have hO : Old (cxOf prog w K C p loose mg mb s (envOfC name scope s.heap.objs.size fa cd) n) a xs := ⟨Vs, hl, hI⟩
    have ok : (cxOf prog w K C p loose mg mb s (envOfC name scope s.heap.objs.size fa cd) n).Ok :=
      { bmain := hBM, kin := kin, top := T, below := ⟨callerA, below_caller _⟩, frames := rfl, fframe := rfl, fkind := hk, kind := hk, globals := rfl, builtins := rfl, handled := rfl
        depth := by
          show callerA.depth + 1 + 4 * n + 4 < recursionLimit
          have : callerA.depth = 301 := by decide
          have : recursionLimit = 1000 := rfl
          omega
        units := by
          show callerA.units + 3 + 40 * n + 200 < cLine
          have : callerA.units = 4 := rfl
          have : cLine = 9900 := rfl
          omega
        cinj := envOfC_inj }
    let cx0 : Cx := { (cxOf prog w K C p loose mg mb s (envOfC name scope s.heap.objs.size fa cd) n) with env := { envOfC name scope s.heap.objs.size fa cd with cells := [] } }
    have B0 : Bear cx0 [] ⟨[], []⟩ [] [] (fun _ => none) (fun _ => none) ⟨fun _ => none, []⟩ :=
      ⟨.nil, fun _ => rfl, .inl ⟨rfl, rfl⟩, rfl, fun _ h => (nomatch h), fun i o p h => by simp at h, fun i j p q h => by simp at h, fun _ h => (nomatch h), fun _ h => (nomatch h), fun x c h => (nomatch h), fun x c h => (nomatch h), fun _ h => (nomatch h), fun _ h => (nomatch h), fun _ h => (nomatch h),
        fun _ h => (nomatch h), fun _ _ h => (nomatch h), fun n v h => (nomatch h)⟩
    have Br := bear_inn (cx := cx0) (k := n) (qual := name) (scope := scope) (f := fa) (cdv := cd) (g := s.heap) (L' := s.heap.objs.size) (ps := ["script"]) (vs := [.glob (.ref a)]) (Vs := [.ref a]) B0 (fun _ h => (nomatch h)) (.cons (.glob _) .nil) (by simp) (fun q hq => by
      rw [List.mem_singleton] at hq; subst hq; exact .inl hkind) C'
    have R' : Rel (cxOf prog w K C p loose mg mb s (envOfC name scope s.heap.objs.size fa cd) n) [] ⟨[], []⟩ ⟨fun k => if k = "script" then some (.glob (.ref a)) else none, []⟩ { s with heap := h₁, toks := tk } := by
      refine ⟨[], cells ++ [], _, bindL (envOfC name scope s.heap.objs.size fa cd).kindOf [(Str.ofString "script", .ref a)] fun _ => none, F', by rw [List.append_nil]; exact N', ?_, hg, rfl, htk⟩
      have e : (⟨fun n => ([("script" : String)].zip [V.glob (.ref a)]).lookup n, []⟩ : St) = ⟨fun k => if k = "script" then some (.glob (.ref a)) else none, []⟩ := by
        congr 1
        funext k
        simp only [List.zip_cons_cons, List.zip_nil_left, List.lookup_cons, List.lookup_nil]
        by_cases hk : k = "script"
        · subst hk; simp
        · have : (k == "script") = false := by simpa using hk
          simp [hk, this]
      rw [← e]
      exact ⟨Br.nd, fun h => absurd rfl h, Br.ln, Br.len, Br.own, fun i o p h => by simp at h, Br.sep, Br.hin, Br.hsep, Br.cel, Br.csep, Br.fin, Br.fz0, Br.hfz, Br.fsep, Br.fcel, Br.loc⟩
    refine wpAny_mono (hbody ok hO [] _ _ _ R' _ _ hrun) (fun fw s' hq => ?_) fun _ _ z => z.elim
    obtain ⟨ρ', hρ, ⟨fz', led', m', mloc', r'⟩, hfl⟩ := hq
    cases hfl with
    | ret hv =>
      cases vr_bool hv
      exact hR s' ⟨_, _, r'.F⟩ r'.gens r'.os
end
end Mine
namespace Mine
def isStarred : Expr → Bool
  | .Starred .. => true
  | _ => false
theorem star_plain {e : Expr} {es : List Expr} {env : Env} (h : isStarred e = false) : starEach (e :: es) env = (false, eval e env) :: starEach es env := by
  cases e <;> first | rfl | cases h
theorem plain_nil {pos : Pos} {env : Env} : (backTo pos (starEach [] env)).any (·.1) = false := rfl
theorem plain_cons {pos : Pos} {e : Expr} {es : List Expr} {env : Env} (h : isStarred e = false) (t : (backTo pos (starEach es env)).any (·.1) = false) : (backTo pos (starEach (e :: es) env)).any (·.1) = false := by
  rw [star_plain h]
  show (false || (backTo pos (starEach es env)).any (·.1)) = false
  rw [t]; rfl
theorem call_name {x : Str} {p pos : Pos} {es : List Expr} {env : Env} : eval (.Call (.Name x p) es [] pos) env = (eval (.Name x p) env >>= fun fv => callWith pos fv [] (backTo pos (starEach es env)) []) := rfl
def plainBase : Expr → Bool
  | .Call (.Name _ _) [] [] _ => false
  | _ => true
theorem base_plain {o : Expr} {name : Str} {env : Env} {t : Sem Value} (h : plainBase o = true) : attributeBase o name env t = t := by
  unfold attributeBase
  split
  · cases h
  · rfl
theorem form_few : ∀ {l : List (Bool × Sem Value)} {n : Nat}, l.any (·.1) = false → n < 30 → methodCallForm n l [] = true := by
  intro l n h1 h2
  unfold methodCallForm
  have : l.all (fun x => !x.1) = true := by
    rw [List.all_eq_true]
    intro x hx
    have := List.any_eq_false.mp h1 x hx
    simpa using this
  rw [this]
  simpa using h2
theorem meth_form {cx : Cx} {o : Expr} {name : Str} {apos pos : Pos} {es : List Expr} (hb : plainBase o = true) (hp : (backTo pos (starEach es cx.env)).any (·.1) = false) (hl : Nat.ble 30 es.length = false) (hline : (apos.endLine == pos.line) = true) :
    MethForm cx o name apos pos es (do return (← importBound o cx.env).getD true) := by
  unfold MethForm
  rw [arm_eval_Call, base_plain hb]
  have hl' : es.length + ([] : List Keyword).length < 30 := by
    have : ¬ 30 ≤ es.length := fun e => by rw [Nat.ble_eq_true_of_le e] at hl; cases hl
    simp; omega
  have hform : methodCallForm (es.length + ([] : List Keyword).length) (backTo pos (starEach es cx.env)) (backToKw pos (keywordEach [] cx.env)) = true := form_few hp hl'
  have hpos : methodCallPos true o cx.env apos pos = pure pos := by unfold methodCallPos; simp [hline]
  unfold methodCall
  rw [hform, hpos]
  rfl
section
variable {cx : Cx}
theorem sim_ML (ok : cx.Ok) {o : Expr} {name : Str} {bid : String} {apos pos : Pos} {es : List Expr} {mo : PM V} {ma : PM (List V)} {f : List V → PM V} (slot : Slot "list" name bid) (hty : typeOf (.builtin bid) = pure (.type "method_descriptor"))
    (hp : PC cx (.builtin bid) f) (ho : SimV cx (eval o cx.env) mo) (ha : SimL cx pos es ma) (hplain : (backTo pos (starEach es cx.env)).any (·.1) = false) (hb : plainBase o = true) (hl : Nat.ble 30 es.length = false) (hline : (apos.endLine == pos.line) = true) :
    SimV cx (eval (.Call (.Attribute o name apos) es [] pos) cx.env) (PM.bind mo fun v => PM.bind (isList v) fun _ => PM.bind ma fun vs => f (v :: vs)) :=
  sim_MethL ok slot hty hp ho ha hplain (meth_form hb hplain hl hline)
theorem sim_MS (ok : cx.Ok) {o : Expr} {name : Str} {bid : String} {apos pos : Pos} {es : List Expr} {mo : PM V} {ma : PM (List V)} {f : List V → PM V} (slot : Slot "str" name bid) (hty : typeOf (.builtin bid) = pure (.type "method_descriptor"))
    (hp : PC cx (.builtin bid) f) (ho : SimV cx (eval o cx.env) mo) (ha : SimL cx pos es ma) (hplain : (backTo pos (starEach es cx.env)).any (·.1) = false) (hb : plainBase o = true) (hl : Nat.ble 30 es.length = false) (hline : (apos.endLine == pos.line) = true) :
    SimV cx (eval (.Call (.Attribute o name apos) es [] pos) cx.env) (PM.bind mo fun v => PM.bind (isStr v) fun _ => PM.bind ma fun vs => f (v :: vs)) :=
  sim_MethS ok slot hty hp ho ha hplain (meth_form hb hplain hl hline)
end
end Mine
namespace Mine
section
variable {cx : Cx}
/-- the script: its length, an item, a cut, a copy -/
def cLenG (a : Addr) (xs : List Int) : List V → PM V
  | [.glob (.ref b)] => fun st => if b = a ∧ xs.length ≤ 1000000 then .ok (.int xs.length) st else .fail
  | _ => PM.fail
theorem old_list {a : Addr} {xs : List Int} (hO : Old cx a xs) {ρ : Map} {hid : Hd} {st : St} {s : Shared} (x : Rel cx ρ hid st s) : ∃ Vs : List Value, s.heap.IsList a Vs.toArray ∧ VRs ρ (xs.map V.int) Vs ∧ Vs.length = xs.length := by
  obtain ⟨Vs, h1, h2⟩ := hO
  obtain ⟨fz, led, m, mloc, r⟩ := x
  have := ints_vrs (ρ := ρ) h2
  exact ⟨Vs, isList_keep h1 r.F.keep, this, by rw [← this.length, List.length_map]⟩
def sliceG (a : Addr) (xs : List Int) (o l u : V) : PM V := fun st => match asPart l, asPart u with
  | some lo, some hi => (match o with
    | .glob (.ref b) => if b = a ∧ xs.length ≤ 1000000 then alloc (.list ((cut xs lo hi).map V.int)) st else .fail
    | _ => .fail)
  | _, _ => .fail
/-- a list made of a list, of a tuple, of the script -/
def cList : List V → PM V
  | [.obj i] => fun st => match st.sto[i]? with
    | some (.list xs) => if xs.length ≤ 1000000 then alloc (.list xs) st else .fail
    | some (.tuple xs) => if xs.length ≤ 1000000 then alloc (.list xs) st else .fail
    | _ => .fail
  | _ => PM.fail
def cListG (a : Addr) (xs : List Int) : List V → PM V
  | [.glob (.ref b)] => fun st => if b = a ∧ xs.length ≤ 1000000 then alloc (.list (xs.map V.int)) st else .fail
  | _ => PM.fail
/-- a list new in the heap enters the store -/
theorem rel_made {ρ : Map} {hid : Hd} {st : St} {s : Shared} (x : Rel cx ρ hid st s) {D : Addr} {c : Nat} {h' : Heap} {tk : Nat} {xs : List V} {Xs : List Value} (hk : ∀ b o, s.heap.get? b = some o → h'.get? b = some o) (hD : s.heap.objs.size ≤ D) (ho : h'.get? D = some (listObj Xs c)) (hv : VRs ρ xs Xs)
    (htk : 0 < tk := by first | assumption | exact Nat.succ_pos _ | exact Rel.pos (by assumption) | exact RelD.tk (by assumption)) :
    Rel cx (ρ ++ [(D, D)]) hid { st with sto := st.sto ++ [.list xs] } { s with heap := h', toks := tk } ∧ VR (ρ ++ [(D, D)]) (.obj st.sto.length) (.ref D) := by
  obtain ⟨fz, led, m, mloc, x⟩ := x
  have hfr : ∀ q ∈ led, q.1 ≠ D := fun q hq => Nat.ne_of_lt (Nat.lt_of_lt_of_le (Heap.lt_size (x.N q hq).1) hD)
  have F' : Fr cx.h₀ cx.L h' m := ⟨x.F.ns.keeps hk, fun b o e => hk b o (x.F.keep b o e), x.F.above⟩
  have N' : News cx.h₀ cx.L h' ((D, listObj Xs c) :: led) := fun q hq => by
    rcases List.mem_cons.mp hq with rfl | hq
    · refine ⟨ho, Nat.ne_of_gt (Nat.lt_of_lt_of_le x.F.ns.lt hD), ?_⟩
      cases e : cx.h₀.get? D with
      | none => rfl
      | some o' => exact absurd (Heap.lt_size (x.F.keep _ _ e)) (Nat.not_lt_of_le hD)
    · have := x.N q hq
      exact ⟨hk _ _ this.1, this.2⟩
  refine ⟨RelD.rel (x.go (tk := tk) F' N' (x.B.alloc hfr (o := .list xs) ⟨Xs, c, hv.mono (List.prefix_append _ _), .head _⟩)), ?_⟩
  have := VR.obj (alloc_get ρ (D, D))
  rw [x.B.len] at this
  exact this
theorem pc_list : PC cx (.type "list") cList := by
  intro ρ hid st s x vs Vs hv v st' h
  unfold cList at h
  split at h
  · rename_i i
    obtain ⟨A, rfl, ha⟩ := vrs_one hv
    obtain ⟨p, hp, rfl⟩ := vr_obj ha
    obtain ⟨fz, led, m, mloc, x'⟩ := id x
    split at h
    · rename_i xs hi
      split at h
      · rename_i hl
        cases h
        obtain ⟨Xs, n, g1, g2⟩ := x'.list_at hi hp
        refine call_list_seq (hsz := by rw [List.size_toArray, ← g1.length]; exact list_fits hl) p.1 (.inl rfl) (x'.N _ g2).1 rfl rfl fun h' c' hk hD => ?_
        obtain ⟨r1, r2⟩ := rel_made (tk := s.toks) x hk (Nat.le_refl _) hD g1
        exact ⟨_, List.prefix_append _ _, r1, r2⟩
      · cases h
    · rename_i xs hi
      split at h
      · rename_i hl
        cases h
        obtain ⟨Xs, n, g1, g2⟩ := x'.tuple_at hi hp
        refine call_list_seq (hsz := by rw [List.size_toArray, ← g1.length]; exact list_fits hl) p.1 (.inr rfl) (x'.N _ g2).1 rfl rfl fun h' c' hk hD => ?_
        obtain ⟨r1, r2⟩ := rel_made (tk := s.toks) x hk (Nat.le_refl _) hD g1
        exact ⟨_, List.prefix_append _ _, r1, r2⟩
      · cases h
    · cases h
  · cases h
theorem pc_listG {a : Addr} {xs : List Int} (hO : Old cx a xs) : PC cx (.type "list") (cListG a xs) := by
  intro ρ hid st s x vs Vs hv v st' h
  unfold cListG at h
  split at h
  · rename_i b
    split at h
    · rename_i hb
      obtain ⟨rfl, hl⟩ := hb
      cases h
      obtain ⟨A, rfl, ha⟩ := vrs_one hv
      cases vr_glob ha
      obtain ⟨Vs, g1, g2, g3⟩ := old_list hO x
      obtain ⟨o, ho, hc, n, hd⟩ := g1
      refine call_list_seq (hsz := by rw [List.size_toArray, g3]; exact list_fits hl) b (.inl rfl) ho hc hd fun h' c' hk hD => ?_
      obtain ⟨r1, r2⟩ := rel_made (tk := s.toks) x hk (Nat.le_refl _) hD g2
      exact ⟨_, List.prefix_append _ _, r1, r2⟩
    · cases h
  · cases h
/-- max, min of two ints; max of a list of ints -/
def intsOf : List V → Option (List Int)
  | [] => some []
  | .int i :: r => (intsOf r).map (i :: ·)
  | _ => none
def maxL : List Int → Int
  | [] => 0
  | [a] => a
  | a :: r => if maxL r > a then maxL r else a
def cMax : List V → PM V
  | [.int a, .int b] => PM.pure (.int (if b > a then b else a))
  | [.obj i] => fun st => match st.sto[i]? with
    | some (.list xs) => (match intsOf xs with | some l => if l ≠ [] then .ok (.int (maxL l)) st else .fail | none => .fail)
    | _ => .fail
  | _ => PM.fail
def cMin : List V → PM V
  | [.int a, .int b] => PM.pure (.int (if b < a then b else a))
  | _ => PM.fail
theorem gives_gt_bi (p : Bool) (b : Int) (u : Tok) : Gives (Builtin.«int.__gt__» ⟨[.bool p, .int b u], []⟩) (.val (Value.bool ((fun x1 x2 => decide (x1 > x2)) (if p = true then (1 : Int) else 0) b))) :=
  .of_wp fun M A E s Q h => by obtain ⟨hp, g, d, tk, os⟩ := s; wp_walk; exact ⟨_, rfl, h⟩
theorem gives_lt_bi (p : Bool) (b : Int) (u : Tok) : Gives (Builtin.«int.__lt__» ⟨[.bool p, .int b u], []⟩) (.val (Value.bool ((fun x1 x2 => decide (x1 < x2)) (if p = true then (1 : Int) else 0) b))) :=
  .of_wp fun M A E s Q h => by obtain ⟨hp, g, d, tk, os⟩ := s; wp_walk; exact ⟨_, rfl, h⟩
theorem gt_bool_int {prog : Program} {w : World} {A : Around} {E : Value → Shared → Prop} {s : Shared} {Q : Value → Shared → Prop} {a : Bool} {b : Int} {u : Tok} (h : Q (.bool (decide (b < (if a then 1 else 0)))) s) : wpAny (model prog w) A (compareOp .Gt (.bool a) (.int b u)) Q E s := by
  show wpAny (model prog w) A (richCompare .Gt (.bool a) (.int b u)) Q E s
  refine SeqAt.rc_left_or (op := .Gt) (Ta := "bool") (Tb := "int") (id := "int.__gt__") (typeIs_bool' s a) (typeIs_int s b u) (by decide) F.sub_int_bool F.slot_bool_gt ?_ (.inl rfl)
  refine call_gives F.slot_bool_gt (typeIs_bool' s a) F.entry_int_gt (F.args_int_gt_2 _ _) (gives_gt_bi a b u) ?_
  exact ⟨nofun, h⟩
theorem gt_int_bool {prog : Program} {w : World} {A : Around} {E : Value → Shared → Prop} {s : Shared} {Q : Value → Shared → Prop} {a : Int} {t : Tok} {b : Bool} (h : Q (.bool (decide ((if b then 1 else 0) < a))) s) : wpAny (model prog w) A (compareOp .Gt (.int a t) (.bool b)) Q E s := by
  show wpAny (model prog w) A (richCompare .Gt (.int a t) (.bool b)) Q E s
  refine SeqAt.rc_sub_first_or (op := .Gt) (Ta := "int") (Tb := "bool") (id := "int.__lt__") (typeIs_int s a t) (typeIs_bool' s b) (by decide) F.sub_bool_int F.slot_bool_lt_refl ?_ (.inl rfl)
  refine call_gives F.slot_bool_lt_refl (typeIs_bool' s b) F.entry_int_lt (F.args_int_lt_2 _ _) (gives_lt_bi b a t) ?_
  exact ⟨nofun, h⟩
theorem p_gt : P2 cx (compareOp .Gt) pGt VR := by
  intro ρ hid st s x a A b B ha hb v st' h
  unfold pGt at h
  split at h
  · obtain ⟨t, rfl⟩ := vr_int ha; obtain ⟨u, rfl⟩ := vr_int hb
    cases h
    exact PyProof.Rows.gt_int (fin_same x (.bool _))
  · cases vr_bool ha; obtain ⟨u, rfl⟩ := vr_int hb
    cases h
    exact gt_bool_int (fin_same x (.bool _))
  · obtain ⟨t, rfl⟩ := vr_int ha; cases vr_bool hb
    cases h
    exact gt_int_bool (fin_same x (.bool _))
  · cases vr_bool ha; cases vr_bool hb
    cases h
    exact PyProof.Rows.gt_bool (fin_same x (.bool _))
  · cases h
end
end Mine
namespace Mine
section
variable {cx : Cx}
end
end Mine
namespace Mine
section
variable {cx : Cx}
structure LamOk (scope : Scope) (env : Env) (fr : List String) : Prop where
  free : (scope.names.all fun y => y.2 != .free || (env.cells.lookup y.1).isSome) = true
  frf : (fr.all fun n => scope.names.lookup (Str.ofString n) == some .free) = true
  frk : (fr.all fun n => env.kindOf (Str.ofString n) != some .local) = true
end
end Mine
namespace Mine
/-- a function made in a body, called: one parameter, what it keeps, its body -/
def callC (p : String) (mb : PM Fl) (cs : List (String × V)) : List V → PM V
  | [v] => fun st => (match mb ⟨fun n => if n = p then some v else cs.lookup n, st.sto⟩ with
      | .ok fl st' => .ok (match fl with | .ret v => v | _ => .none) ⟨st.loc, st'.sto⟩
      | .exc e st' => .exc e ⟨st.loc, st'.sto⟩
      | .fail => .fail)
  | _ => PM.fail
section
variable {cx : Cx}
/-- the law's closure as a primitive -/
structure FnC (cx : Cx) (k : Nat) (p : String) (mb : PM Fl) : Prop where
  run : ∀ A', (cx.at A').Ok → A'.depth + 4 * k + 5 < recursionLimit → A'.units + 40 * k + 203 < cLine → ∀ {ρ : Map} {hid : Hd} {st st' : St} {s : Shared}, Rel cx ρ hid st s → ∀ {j : Nat} {cs : List (String × V)} {q : Addr × Addr}, st.sto[j]? = some (.clos cs) → ρ[j]? = some q →
    ∀ {vs : List V} {Vs : List Value}, VRs ρ vs Vs → ∀ {v : V}, callC p mb cs vs st = .ok v st' → ∀ {R : Result → Shared → Prop}, (∀ ρ' W s', ρ <+: ρ' → Rel cx ρ' hid st' s' → VR ρ' v W → R (.ok (.ret W)) s') → codeAny cx.M A' (.call (.ref q.1) ⟨Vs, []⟩) R s
end
end Mine
namespace Mine
section
variable {cx : Cx}
end
end Mine
namespace Mine
section
variable {cx : Cx}
end
end Mine
namespace Mine
/-- what holds when a PM program has run -/
def wp {α : Type} (m : PM α) (st : St) (Q : α → St → Prop) : Prop := match m st with
  | .ok a st' => Q a st'
  | _ => False
theorem wp_run {α : Type} {m : PM α} {st : St} {Q : α → St → Prop} (h : wp m st Q) : ∃ a st', m st = .ok a st' ∧ Q a st' := by
  unfold wp at h
  cases e : m st with
  | ok a st' => rw [e] at h; exact ⟨a, st', rfl, h⟩
  | exc _ _ => rw [e] at h; exact h.elim
  | fail => rw [e] at h; exact h.elim
theorem wp_of {α : Type} {m : PM α} {st st' : St} {a : α} {Q : α → St → Prop} (e : m st = .ok a st') (h : Q a st') : wp m st Q := by
  unfold wp; rw [e]; exact h
theorem wp_mono {α : Type} {m : PM α} {st : St} {Q Q' : α → St → Prop} (h : wp m st Q) (k : ∀ a st', Q a st' → Q' a st') : wp m st Q' := by
  obtain ⟨a, st', e, q⟩ := wp_run h
  exact wp_of e (k a st' q)
theorem wp_bind {α β : Type} {m : PM α} {f : α → PM β} {st : St} {Q : β → St → Prop} : wp (PM.bind m f) st Q = wp m st (fun a st' => wp (f a) st' Q) := by
  unfold wp PM.bind
  cases m st <;> rfl
theorem wp_pure {α : Type} {a : α} {st : St} {Q : α → St → Prop} : wp (PM.pure a) st Q = Q a st := rfl
theorem wp_getL {n : String} {st : St} {Q : V → St → Prop} : wp (getL n) st Q = ∃ v, st.loc n = some v ∧ Q v st := by
  unfold wp getL
  cases e : st.loc n with
  | some v => simp
  | none => simp
theorem wp_setL {n : String} {v : V} {st : St} {Q : Unit → St → Prop} : wp (setL n v) st Q = Q () { st with loc := fun k => if k = n then some v else st.loc k } := rfl
theorem wp_alloc {o : O} {st : St} {Q : V → St → Prop} : wp (alloc o) st Q = Q (.obj st.sto.length) { st with sto := st.sto ++ [o] } := rfl
theorem wp_allocList {vs : List V} {st : St} {Q : V → St → Prop} : wp (allocList vs) st Q = (vs.length ≤ 1000000 ∧ Q (.obj st.sto.length) { st with sto := st.sto ++ [.list vs] }) := by
  unfold wp allocList alloc
  by_cases h : vs.length ≤ 1000000
  · simp [h]
  · simp [h]
theorem wp_allocTuple {vs : List V} {st : St} {Q : V → St → Prop} : wp (allocTuple vs) st Q = (vs.length ≤ 1000000 ∧ Q (.obj st.sto.length) { st with sto := st.sto ++ [.tuple vs] }) := by
  unfold wp allocTuple alloc
  by_cases h : vs.length ≤ 1000000
  · simp [h]
  · simp [h]
theorem wp_ite {α : Type} {m : PM Bool} {a b : PM α} {st : St} {Q : α → St → Prop} : wp (iteP m a b) st Q = wp m st (fun c st' => if c = true then wp a st' Q else wp b st' Q) := by
  unfold iteP
  rw [wp_bind]
  congr 1
  funext c st'
  cases c <;> simp
theorem wp_and {m k : PM Bool} {st : St} {Q : Bool → St → Prop} : wp (andP m k) st Q = wp m st (fun c st' => if c = true then wp k st' Q else Q false st') := by
  unfold andP
  rw [wp_bind]
  congr 1
  funext c st'
  cases c <;> simp [wp_pure]
theorem wp_or {m k : PM Bool} {st : St} {Q : Bool → St → Prop} : wp (orP m k) st Q = wp m st (fun c st' => if c = true then Q true st' else wp k st' Q) := by
  unfold orP
  rw [wp_bind]
  congr 1
  funext c st'
  cases c <;> simp [wp_pure]
theorem wp_seq' {m k : PM Fl} {st : St} {Q : Fl → St → Prop} : wp (seqF m k) st Q = wp m st (fun f st' => match f with | .next => wp k st' Q | .brk => Q .brk st' | .cont => Q .cont st' | .ret v => Q (.ret v) st') := by
  unfold seqF
  rw [wp_bind]
  congr 1
  funext f st'
  cases f <;> rfl
theorem wp_add {a b : Int} {st : St} {Q : V → St → Prop} : wp (pAdd (.int a) (.int b)) st Q = Q (.int (a + b)) st := rfl
theorem wp_sub {a b : Int} {st : St} {Q : V → St → Prop} : wp (pSub (.int a) (.int b)) st Q = Q (.int (a - b)) st := rfl
theorem wp_neg {a : Int} {st : St} {Q : V → St → Prop} : wp (pNeg (.int a)) st Q = Q (.int (-a)) st := rfl
theorem eqP_int (st : St) (a b : Int) : eqP st (.int a) (.int b) = some (decide (a = b)) := by
  show some (PyData.eqv (.int a) (.int b)) = _
  congr 1
theorem wp_truthyB {b : Bool} {st : St} {Q : Bool → St → Prop} : wp (pTruthy (.bool b)) st Q = Q b st := rfl
theorem wp_item {o i v : V} {st : St} {Q : V → St → Prop} (h : itemP st o i = some v) : wp (pItem o i) st Q = Q v st := by
  simp [wp, pItem, h]
theorem wp_isStr {l : List Nat} {st : St} {Q : Unit → St → Prop} : wp (isStr (.str l)) st Q = Q () st := rfl
theorem wp_isList {i : Nat} {xs : List V} {st : St} {Q : Unit → St → Prop} (h : st.sto[i]? = some (.list xs)) : wp (isList (.obj i)) st Q = Q () st := by
  simp [wp, isList, h]
theorem wp_append {i : Nat} {xs : List V} {v : V} {st : St} {Q : V → St → Prop} (h : st.sto[i]? = some (.list xs)) (hl : xs.length ≤ 1000000) : wp (cAppend [.obj i, v]) st Q = Q .none { st with sto := st.sto.set i (.list (xs ++ [v])) } := by
  simp [wp, cAppend, h, hl]
theorem wp_gAttr {n : String} {i : Nat} {as : List (String × V)} {v : V} {st : St} {Q : V → St → Prop} (h : st.sto[i]? = some (.inst as)) (hn : as.lookup n = some v) (hg : ∀ u, v ≠ .glob u) : wp (gAttr n (.obj i)) st Q = Q v st := by
  unfold wp gAttr
  dsimp only
  rw [h]
  dsimp only
  rw [hn]
  cases v <;> first | rfl | exact absurd rfl (hg _)
theorem wp_sAttr {n : String} {i : Nat} {as : List (String × V)} {v : V} {st : St} {Q : Unit → St → Prop} (h : st.sto[i]? = some (.inst as)) (hl : as.length ≤ 90) : wp (sAttr n v (.obj i)) st Q = Q () { st with sto := st.sto.set i (.inst (putA n v as)) } := by
  simp [wp, sAttr, h, hl]
/-- loops -/
theorem wp_loop {src : Src} {body : V → PM Fl} {Q : Fl → St → Prop} (I : List V → St → Prop) (hc : ∀ r st, I r st → ∀ p, src = some p → st.sto[p.1]? = some p.2)
    (step : ∀ x r st, I (x :: r) st → wp (body x) st (fun f st' => match f with | .next => I r st' | .cont => I r st' | .brk => Q .next st' | .ret v => Q (.ret v) st')) (done : ∀ st, I [] st → Q .next st) :
    ∀ (xs : List V) (st : St), I xs st → wp (loopF src body xs) st Q
  | [], st, h => by
    have : chk src st = .ok () st := by
      cases src with
      | none => rfl
      | some p => exact chk_some (hc _ _ h p rfl)
    unfold loopF
    rw [wp_bind]
    exact wp_of this (done st h)
  | x :: r, st, h => by
    have : chk src st = .ok () st := by
      cases src with
      | none => rfl
      | some p => exact chk_some (hc _ _ h p rfl)
    unfold loopF
    rw [wp_bind]
    refine wp_of this ?_
    rw [wp_bind]
    refine wp_mono (step x r st h) fun f st' q => ?_
    cases f with
    | next => exact wp_loop I hc step done r st' q
    | cont => exact wp_loop I hc step done r st' q
    | brk => exact q
    | ret v => exact q
end Mine
namespace Mine
noncomputable def initE : PM Fl := (seqF (PM.bind (PM.bind (PM.pure []) allocList) fun v => PM.bind (getL "self") fun a => PM.bind (sAttr "useragents" v a) fun _ => PM.pure .next) (seqF (PM.bind (PM.bind (PM.pure []) allocList) fun v => PM.bind (getL "self") fun a => PM.bind (sAttr "rulelines" v a) fun _ => PM.pure .next) (seqF (PM.bind (PM.pure .none) fun v => PM.bind (getL "self") fun a => PM.bind (sAttr "delay" v a) fun _ => PM.pure .next) (PM.bind (PM.pure .none) fun v => PM.bind (getL "self") fun a => PM.bind (sAttr "req_rate" v a) fun _ => PM.pure .next))))
theorem idx_nat {n k : Nat} (h : k < n) : idx n (k : Int) = some k := by
  unfold idx
  rw [if_pos (by omega), if_pos (by omega)]
  simp
theorem get_app_len (l : List O) (o : O) (r : List O) : (l ++ o :: r)[l.length]? = some o := by
  rw [List.getElem?_append_right (Nat.le_refl _)]; simp
theorem get_pre {l l' : List O} (h : l <+: l') {i : Nat} {o : O} (e : l[i]? = some o) : l'[i]? = some o := by
  obtain ⟨t, rfl⟩ := h
  rw [List.getElem?_append_left]
  · exact e
  · rcases Nat.lt_or_ge i l.length with q | q
    · exact q
    · rw [List.getElem?_eq_none q] at e; cases e
theorem get_lt {l : List O} {i : Nat} {o : O} (e : l[i]? = some o) : i < l.length := by
  rcases Nat.lt_or_ge i l.length with q | q
  · exact q
  · rw [List.getElem?_eq_none q] at e; cases e
theorem set_app_len (l : List O) (o o' : O) (r : List O) : (l ++ o :: r).set l.length o' = l ++ o' :: r := by
  rw [List.set_append_right _ _ (Nat.le_refl _)]; simp
theorem wp_call {ps : List String} {mb : PM Fl} {vs : List V} {st : St} {Q : V → St → Prop} (hl : vs.length = ps.length) :
    wp (callP ps mb vs) st Q = wp mb ⟨fun n => (ps.zip vs).lookup n, st.sto⟩ (fun fl st' => Q (match fl with | .ret v => v | _ => .none) ⟨st.loc, st'.sto⟩) := by
  unfold wp callP
  rw [if_pos hl]
  cases mb ⟨fun n => (ps.zip vs).lookup n, st.sto⟩ <;> rfl
theorem wp_entry {st : St} {Q : V → St → Prop} (h : Q (.obj st.sto.length) ⟨st.loc, st.sto ++ [.inst [("useragents", .obj (st.sto.length + 1)), ("rulelines", .obj (st.sto.length + 2)), ("delay", .none), ("req_rate", .none)], .list [], .list []]⟩) :
    wp (newInst initE ["self"] []) st Q := by
  unfold newInst
  rw [wp_bind, wp_alloc, wp_bind, wp_call rfl]
  unfold initE
  have g0 : ∀ (as : List (String × V)) (r : List O), (st.sto ++ O.inst as :: r)[st.sto.length]? = some (.inst as) := fun as r => get_app_len _ _ _
  simp only [wp_seq', wp_bind, wp_pure, wp_allocList, wp_getL, List.length_nil, Nat.zero_le, true_and, List.zip_cons_cons, List.zip_nil_left, List.lookup_cons, List.lookup_nil, beq_self_eq_true, Option.some.injEq, exists_eq_left', List.append_assoc, List.cons_append, List.nil_append, List.length_append, List.length_cons]
  rw [wp_sAttr (as := []) (g0 _ _) (by decide)]
  simp only [set_app_len, List.append_assoc, List.cons_append, List.nil_append, List.length_append, List.length_cons, List.length_nil]
  refine ⟨_, rfl, ?_⟩
  rw [wp_sAttr (g0 _ _) (by simp [putA])]
  simp only [set_app_len]
  refine ⟨_, rfl, ?_⟩
  rw [wp_sAttr (g0 _ _) (by simp [putA])]
  simp only [set_app_len]
  refine ⟨_, rfl, ?_⟩
  rw [wp_sAttr (g0 _ _) (by simp [putA])]
  simp only [set_app_len]
  simpa [putA] using h
theorem eqv_str (a b : List Nat) : PyData.eqv (.str ⟨a.toArray⟩) (.str ⟨b.toArray⟩) = decide (a = b) := by
  show ((⟨a.toArray⟩ : Str) == ⟨b.toArray⟩) = _
  by_cases h : a = b
  · subst h; simp
  · rw [decide_eq_false h, beq_eq_false_iff_ne]
    intro e
    have : a.toArray = b.toArray := congrArg Str.cps e
    exact h (by simpa using this)
theorem eqP_str (st : St) (a b : List Nat) : eqP st (.str a) (.str b) = some (decide (a = b)) := by
  show some (PyData.eqv (.str ⟨a.toArray⟩) (.str ⟨b.toArray⟩)) = _
  rw [eqv_str]
/-- the part of a name that counts -/
def part (name : List Nat) : List Nat := (name.takeWhile (fun x => decide (x ≠ 47))).map lowP
end Mine
namespace Mine
/-- steps as equations: what must hold, told by cases on the store -/
theorem wp_if {α : Type} {c : Prop} [Decidable c] {m : PM α} {st : St} {Q : α → St → Prop} : wp (fun st => if c then m st else .fail) st Q = (c ∧ wp m st Q) := by
  unfold wp
  by_cases h : c <;> simp [h]
theorem wpE_get {n : String} {st : St} {Q : V → St → Prop} : wp (getL n) st Q = (match st.loc n with | some v => Q v st | none => False) := by
  unfold wp getL
  cases st.loc n <;> rfl
theorem wpE_mod {a b : Int} {st : St} {Q : V → St → Prop} : wp (pMod (.int a) (.int b)) st Q = (0 < b ∧ Q (.int (a % b)) st) := by
  by_cases h : 0 < b <;> simp [wp, pMod, h]
theorem wpE_div {a b : Int} {st : St} {Q : V → St → Prop} : wp (pDiv (.int a) (.int b)) st Q = ((0 < b ∧ b < 1000000000) ∧ Q (.int (a / b)) st) := by
  by_cases h : 0 < b ∧ b < 1000000000 <;> simp [wp, pDiv, h]
theorem wpE_pow {a b : Int} {st : St} {Q : V → St → Prop} : wp (pPow (.int a) (.int b)) st Q = ((small a && (decide (0 ≤ b) && decide (b ≤ 1000))) = true ∧ Q (.int (a ^ b.toNat)) st) := wp_if
theorem wpE_addS {a b : List Nat} {st : St} {Q : V → St → Prop} : wp (pAdd (.str a) (.str b)) st Q = (a.length + b.length ≤ 1000000 ∧ Q (.str (a ++ b)) st) := by
  by_cases h : a.length + b.length ≤ 1000000 <;> simp [wp, pAdd, h]
theorem wpE_iaddS {a b : List Nat} {st : St} {Q : V → St → Prop} : wp (pIAdd (.str a) (.str b)) st Q = (a.length + b.length ≤ 1000000 ∧ Q (.str (a ++ b)) st) := by
  by_cases h : a.length + b.length ≤ 1000000 <;> simp [wp, pIAdd, h]
theorem wpE_iaddI {a b : Int} {st : St} {Q : V → St → Prop} : wp (pIAdd (.int a) (.int b)) st Q = Q (.int (a + b)) st := rfl
theorem wpE_addL {i j : Nat} {xs ys : List V} {st : St} {Q : V → St → Prop} (h1 : st.sto[i]? = some (.list xs)) (h2 : st.sto[j]? = some (.list ys)) :
    wp (pAdd (.obj i) (.obj j)) st Q = ((xs ++ ys).length ≤ 1000000 ∧ Q (.obj st.sto.length) { st with sto := st.sto ++ [.list (xs ++ ys)] }) := by
  rw [← wp_allocList]
  unfold wp pAdd
  simp only [h1, h2]
theorem wpE_lt {a b : Int} {st : St} {Q : V → St → Prop} : wp (pLt (.int a) (.int b)) st Q = Q (.bool (decide (a < b))) st := rfl
theorem wpE_le {a b : Int} {st : St} {Q : V → St → Prop} : wp (pLe (.int a) (.int b)) st Q = Q (.bool (decide (a ≤ b))) st := rfl
theorem wpE_ge {a b : Int} {st : St} {Q : V → St → Prop} : wp (pGe (.int a) (.int b)) st Q = Q (.bool (decide (b ≤ a))) st := rfl
theorem wpE_gt {a b : Int} {st : St} {Q : V → St → Prop} : wp (pGt (.int a) (.int b)) st Q = Q (.bool (decide (b < a))) st := rfl
theorem wpE_eq {a b : V} {st : St} {Q : V → St → Prop} : wp (pEq a b) st Q = (match eqP st a b with | some c => Q (.bool c) st | none => False) := by
  unfold wp pEq
  cases eqP st a b <;> rfl
theorem wpE_ne {a b : V} {st : St} {Q : V → St → Prop} : wp (pNe a b) st Q = (match eqP st a b with | some c => Q (.bool (!c)) st | none => False) := by
  unfold wp pNe
  cases eqP st a b <;> rfl
theorem wpE_is {a b : V} {st : St} {Q : V → St → Prop} : wp (pIs a b) st Q = (match isP a b with | some c => Q (.bool c) st | none => False) := by
  unfold wp pIs
  cases isP a b <;> rfl
theorem wpE_isnot {a b : V} {st : St} {Q : V → St → Prop} : wp (pIsNot a b) st Q = (match isP a b with | some c => Q (.bool (!c)) st | none => False) := by
  unfold wp pIsNot
  cases isP a b <;> rfl
theorem isP_bool (a b : Bool) : isP (.bool a) (.bool b) = some (a == b) := rfl
theorem isP_obj (i : Nat) : isP (.obj i) (.obj i) = some true := by simp [isP]
theorem wpE_in {a b : V} {st : St} {Q : V → St → Prop} : wp (pIn a b) st Q = (match inP st a b with | some c => Q (.bool c) st | none => False) := by
  unfold wp pIn
  cases inP st a b <;> rfl
theorem wpE_notin {a b : V} {st : St} {Q : V → St → Prop} : wp (pNotIn a b) st Q = (match inP st a b with | some c => Q (.bool (!c)) st | none => False) := by
  unfold wp pNotIn
  cases inP st a b <;> rfl
theorem wpE_truthyI {i : Int} {st : St} {Q : Bool → St → Prop} : wp (pTruthy (.int i)) st Q = Q (i != 0) st := rfl
theorem wpE_truthyN {st : St} {Q : Bool → St → Prop} : wp (pTruthy .none) st Q = Q false st := rfl
theorem wpE_truthyS {l : List Nat} {st : St} {Q : Bool → St → Prop} : wp (pTruthy (.str l)) st Q = (l.length ≤ 1000000 ∧ Q (!l.isEmpty) st) := by
  by_cases h : l.length ≤ 1000000 <;> simp [wp, pTruthy, h]
theorem wpE_truthyL {i : Nat} {xs : List V} {st : St} {Q : Bool → St → Prop} (hi : st.sto[i]? = some (.list xs)) : wp (pTruthy (.obj i)) st Q = (xs.length ≤ 1000000 ∧ Q (!xs.isEmpty) st) := by
  by_cases h : xs.length ≤ 1000000 <;> simp [wp, pTruthy, h, hi]
theorem itemL {st : St} {j k : Nat} {xs : List V} {v : V} (h : st.sto[j]? = some (.list xs)) (hl : xs.length ≤ 1000000) (hk : xs[k]? = some v) : itemP st (.obj j) (.int (k : Int)) = some v := by
  have hlt : k < xs.length := by
    rcases Nat.lt_or_ge k xs.length with q | q
    · exact q
    · rw [List.getElem?_eq_none q] at hk; cases hk
  unfold itemP
  dsimp only
  rw [h]
  dsimp only
  rw [if_pos hl, idx_nat hlt]
  exact hk
theorem wpE_lenS {l : List Nat} {st : St} {Q : V → St → Prop} : wp (cLen [.str l]) st Q = (l.length ≤ 1000000 ∧ Q (.int l.length) st) := by
  by_cases h : l.length ≤ 1000000 <;> simp [wp, cLen, h]
theorem wpE_lenG {a : Addr} {xs : List Int} {st : St} {Q : V → St → Prop} : wp (cLenG a xs [.glob (.ref a)]) st Q = (xs.length ≤ 1000000 ∧ Q (.int xs.length) st) := by
  by_cases h : xs.length ≤ 1000000 <;> simp [wp, cLenG, h]
theorem wpE_sliceL {i : Nat} {xs : List V} {l u : V} {lo hi : Option Int} {st : St} {Q : V → St → Prop} (hi' : st.sto[i]? = some (.list xs)) (h1 : asPart l = some lo) (h2 : asPart u = some hi) :
    wp (sliceP (.obj i) l u) st Q = (xs.length ≤ 1000000 ∧ Q (.obj st.sto.length) { st with sto := st.sto ++ [.list (cut xs lo hi)] }) := by
  unfold wp sliceP
  rw [h1, h2]
  by_cases h : xs.length ≤ 1000000 <;> simp [h, alloc, hi']
theorem wpE_list {i : Nat} {xs : List V} {st : St} {Q : V → St → Prop} (h : st.sto[i]? = some (.list xs)) : wp (cList [.obj i]) st Q = (xs.length ≤ 1000000 ∧ Q (.obj st.sto.length) { st with sto := st.sto ++ [.list xs] }) := by
  by_cases hl : xs.length ≤ 1000000 <;> simp [wp, cList, h, hl, alloc]
theorem wpE_iterL {i : Nat} {xs : List V} {st : St} {Q : Src × List V → St → Prop} (h : st.sto[i]? = some (.list xs)) : wp (iterOf (.obj i)) st Q = Q (some (i, .list xs), xs) st := by
  simp [wp, iterOf, h]
theorem wpE_iterS {l : List Nat} {st : St} {Q : Src × List V → St → Prop} : wp (iterOf (.str l)) st Q = Q (none, l.map fun c => .str [c]) st := rfl
def vnat (n : Nat) : V := .int (n : Int)
theorem wpE_iterR {i n : Nat} {st : St} {Q : Src × List V → St → Prop} (h : st.sto[i]? = some (.range 0 (n : Int) 1)) (hn : n ≤ 1000000) : wp (iterOf (.obj i)) st Q = Q (none, (List.range n).map vnat) st := by
  have : iterOf (.obj i) st = .ok (none, (List.range n).map vnat) st := by
    unfold iterOf
    dsimp only
    rw [h]
    dsimp only
    rw [if_pos (by omega)]
    congr 2
    unfold rangeInts
    have e : (if (0 : Int) < (n : Int) then (((n : Int) - 0 - 1) / 1 + 1).toNat else 0) = n := by
      split
      · rw [Int.ediv_one]; omega
      · omega
    rw [e, List.map_map]
    refine List.map_congr_left fun i _ => ?_
    simp [vnat]
  unfold wp
  rw [this]
theorem wpE_iterG {a : Addr} {xs : List Int} {st : St} {Q : Src × List V → St → Prop} : wp (iterG a xs (.glob (.ref a))) st Q = Q (none, xs.map V.int) st := by
  simp [wp, iterG, PM.pure]
theorem wpE_max2 {a b : Int} {st : St} {Q : V → St → Prop} : wp (cMax [.int a, .int b]) st Q = Q (.int (if b > a then b else a)) st := rfl
theorem wpE_min2 {a b : Int} {st : St} {Q : V → St → Prop} : wp (cMin [.int a, .int b]) st Q = Q (.int (if b < a then b else a)) st := rfl
theorem wpE_range1 {n : Int} {st : St} {Q : V → St → Prop} : wp (cRange [.int n]) st Q = Q (.obj st.sto.length) { st with sto := st.sto ++ [.range 0 n 1] } := rfl
theorem wpE_range2 {a b : Int} {st : St} {Q : V → St → Prop} : wp (cRange [.int a, .int b]) st Q = Q (.obj st.sto.length) { st with sto := st.sto ++ [.range a b 1] } := rfl
/-- loops over a told list -/
theorem wp_for {α : Type} {f : α → V} {src : Src} {body : V → PM Fl} {Q : Fl → St → Prop} {st : St} (xs : List α) (I : List α → (String → Option V) → List O → Prop) (hsrc : ∀ d loc sto, I d loc sto → ∀ p, src = some p → sto[p.1]? = some p.2)
    (step : ∀ d x r loc sto, xs = d ++ x :: r → I d loc sto → wp (body (f x)) ⟨loc, sto⟩ (fun fl s' => match fl with | .next => I (d ++ [x]) s'.loc s'.sto | .cont => I (d ++ [x]) s'.loc s'.sto | .brk => Q .next s' | .ret v => Q (.ret v) s'))
    (fin : ∀ loc sto, I xs loc sto → Q .next ⟨loc, sto⟩) (h0 : I [] st.loc st.sto) : wp (loopF src body (xs.map f)) st Q := by
  refine wp_loop (fun r s => ∃ d rs, xs = d ++ rs ∧ r = rs.map f ∧ I d s.loc s.sto) (fun r s hs p hp => ?_) (fun x r s hs => ?_) (fun s hs => ?_) _ _ ⟨[], xs, rfl, rfl, h0⟩
  · obtain ⟨d, rs, _, _, hI⟩ := hs
    exact hsrc d s.loc s.sto hI p hp
  · obtain ⟨d, rs, e1, e2, hI⟩ := hs
    cases rs with
    | nil => cases e2
    | cons y rs =>
      rw [List.map_cons, List.cons.injEq] at e2
      obtain ⟨rfl, rfl⟩ := e2
      refine wp_mono (step d y rs s.loc s.sto e1 hI) fun fl s' q => ?_
      cases fl with
      | next => exact ⟨d ++ [y], rs, by rw [e1]; simp, rfl, q⟩
      | cont => exact ⟨d ++ [y], rs, by rw [e1]; simp, rfl, q⟩
      | brk => exact q
      | ret v => exact q
  · obtain ⟨d, rs, e1, e2, hI⟩ := hs
    cases rs with
    | nil =>
      rw [List.append_nil] at e1
      subst e1
      exact fin s.loc s.sto hI
    | cons y rs => cases e2
/-- store facts -/
theorem get_app_add (l r : List O) (k : Nat) : (l ++ r)[l.length + k]? = r[k]? := by
  rw [List.getElem?_append_right (by omega)]
  congr 1
  omega
theorem get_set_other {l : List O} {i j : Nat} {o o' : O} (h : l[i]? = some o) (hne : j ≠ i) : (l.set j o')[i]? = some o := by
  rw [List.getElem?_set_ne hne]; exact h
theorem get_set_here {l : List O} {i : Nat} {o o' : O} (h : l[i]? = some o) : (l.set i o')[i]? = some o' := List.getElem?_set_self (get_lt h)
-- the same with the state told as names and store
section
variable {loc : String → Option V} {sto : List O}
theorem wL_isList {i : Nat} {xs : List V} {Q : Unit → St → Prop} (h : sto[i]? = some (.list xs)) : wp (isList (.obj i)) ⟨loc, sto⟩ Q = Q () ⟨loc, sto⟩ := wp_isList h
theorem wL_append {i : Nat} {xs : List V} {v : V} {Q : V → St → Prop} (h : sto[i]? = some (.list xs)) (hl : xs.length ≤ 1000000) : wp (cAppend [.obj i, v]) ⟨loc, sto⟩ Q = Q .none ⟨loc, sto.set i (.list (xs ++ [v]))⟩ := wp_append h hl
theorem wL_insert {i : Nat} {xs : List V} {k : Nat} {v : V} {Q : V → St → Prop} (h : sto[i]? = some (.list xs)) (hl : xs.length ≤ 1000000) (hk : k ≤ xs.length) : wp (cInsert [.obj i, .int (k : Int), v]) ⟨loc, sto⟩ Q = Q .none ⟨loc, sto.set i (.list (xs.take k ++ v :: xs.drop k))⟩ := by
  have hc : xs.length ≤ 1000000 ∧ (0 : Int) ≤ (k : Int) ∧ (k : Int) ≤ (xs.length : Int) := ⟨hl, by omega, by omega⟩
  unfold wp cInsert
  simp only [h]
  rw [if_pos hc]
  simp
theorem wL_gAttr {n : String} {i : Nat} {as : List (String × V)} {v : V} {Q : V → St → Prop} (h : sto[i]? = some (.inst as)) (hn : as.lookup n = some v) (hg : ∀ u, v ≠ .glob u) : wp (gAttr n (.obj i)) ⟨loc, sto⟩ Q = Q v ⟨loc, sto⟩ := wp_gAttr h hn hg
theorem wL_sAttr {n : String} {i : Nat} {as : List (String × V)} {v : V} {Q : Unit → St → Prop} (h : sto[i]? = some (.inst as)) (hl : as.length ≤ 90) : wp (sAttr n v (.obj i)) ⟨loc, sto⟩ Q = Q () ⟨loc, sto.set i (.inst (putA n v as))⟩ := wp_sAttr h hl
theorem wL_add {i j : Nat} {xs ys : List V} {Q : V → St → Prop} (h1 : sto[i]? = some (.list xs)) (h2 : sto[j]? = some (.list ys)) : wp (pAdd (.obj i) (.obj j)) ⟨loc, sto⟩ Q = ((xs ++ ys).length ≤ 1000000 ∧ Q (.obj sto.length) ⟨loc, sto ++ [.list (xs ++ ys)]⟩) := wpE_addL h1 h2
theorem wL_truthy {i : Nat} {xs : List V} {Q : Bool → St → Prop} (hi : sto[i]? = some (.list xs)) : wp (pTruthy (.obj i)) ⟨loc, sto⟩ Q = (xs.length ≤ 1000000 ∧ Q (!xs.isEmpty) ⟨loc, sto⟩) := wpE_truthyL hi
theorem wL_item {j k : Nat} {xs : List V} {v : V} {Q : V → St → Prop} (h : sto[j]? = some (.list xs)) (hl : xs.length ≤ 1000000) (hk : xs[k]? = some v) : wp (pItem (.obj j) (.int (k : Int))) ⟨loc, sto⟩ Q = Q v ⟨loc, sto⟩ := wp_item (itemL h hl hk)
theorem wL_slice {i : Nat} {xs : List V} {l u : V} {lo hi : Option Int} {Q : V → St → Prop} (hi' : sto[i]? = some (.list xs)) (h1 : asPart l = some lo) (h2 : asPart u = some hi) : wp (sliceP (.obj i) l u) ⟨loc, sto⟩ Q = (xs.length ≤ 1000000 ∧ Q (.obj sto.length) ⟨loc, sto ++ [.list (cut xs lo hi)]⟩) := wpE_sliceL hi' h1 h2
theorem wL_list {i : Nat} {xs : List V} {Q : V → St → Prop} (h : sto[i]? = some (.list xs)) : wp (cList [.obj i]) ⟨loc, sto⟩ Q = (xs.length ≤ 1000000 ∧ Q (.obj sto.length) ⟨loc, sto ++ [.list xs]⟩) := wpE_list h
theorem wL_iter {i : Nat} {xs : List V} {Q : Src × List V → St → Prop} (h : sto[i]? = some (.list xs)) : wp (iterOf (.obj i)) ⟨loc, sto⟩ Q = Q (some (i, .list xs), xs) ⟨loc, sto⟩ := wpE_iterL h
theorem wL_iterR {i n : Nat} {Q : Src × List V → St → Prop} (h : sto[i]? = some (.range 0 (n : Int) 1)) (hn : n ≤ 1000000) : wp (iterOf (.obj i)) ⟨loc, sto⟩ Q = Q (none, (List.range n).map vnat) ⟨loc, sto⟩ := wpE_iterR h hn
theorem wL_entry {Q : V → St → Prop} (h : Q (.obj sto.length) ⟨loc, sto ++ [.inst [("useragents", .obj (sto.length + 1)), ("rulelines", .obj (sto.length + 2)), ("delay", .none), ("req_rate", .none)], .list [], .list []]⟩) :
    wp (newInst initE ["self"] []) ⟨loc, sto⟩ Q := wp_entry h
end
theorem cps_e : cps "" = [] := by kernel_rfl
theorem loc1 (p : String) (v : V) : (fun n => ([p].zip [v]).lookup n) = fun n => if n = p then some v else none := by
  funext n
  simp only [List.zip_cons_cons, List.zip_nil_left, List.lookup_cons, List.lookup_nil]
  by_cases h1 : n = p
  · subst h1; simp
  · have : (n == p) = false := by simpa using h1
    rw [this, if_neg h1]
end Mine
namespace Mine
/-- equality of lists that may hold instances: the same one is equal -/
def eqE (st : St) (v w : V) : Option Bool := match v, w with
  | .obj i, .obj j => if i = j then some true else eqP st (.obj i) (.obj j)
  | v, w => eqP st v w
def eqsE (st : St) : List V → List V → Option Bool
  | [], [] => some true
  | v :: r, w :: q => match eqE st v w, eqsE st r q with
    | some a, some b => some (a && b)
    | _, _ => none
  | _, _ => none
def eqX (st : St) : V → V → Option Bool
  | .obj i, .obj j => match st.sto[i]?, st.sto[j]? with
    | some (.list xs), some (.list ys) => if xs.length = ys.length then eqsE st xs ys else some false
    | _, _ => none
  | _, _ => none
def pEqX (a b : V) : PM V := fun st => match eqX st a b with | some c => .ok (.bool c) st | none => .fail
def pNeX (a b : V) : PM V := fun st => match eqX st a b with | some c => .ok (.bool (!c)) st | none => .fail
section
variable {cx : Cx}
theorem eqE_at {ρ : Map} {hid : Hd} {st : St} {s : Shared} {A₀ : Around} (hu : A₀.units + 10 < cLine) (x : Rel cx ρ hid st s) {v w : V} {A B : Value} {c : Bool} (ha : VR ρ v A) (hb : VR ρ w B) (h : eqE st v w = some c) : SeqAt.EqAt A₀ s A B c := by
  have key : ∀ {v w : V} {A B : Value}, VR ρ v A → VR ρ w B → eqP st v w = some c → SeqAt.EqAt A₀ s A B c := by
    intro v w A B ha hb h
    unfold eqP at h
    split at h
    · rename_i d d' h1 h2
      cases h
      obtain ⟨fz, led, m, mloc, x'⟩ := id x
      obtain ⟨as, a1, a2, a3⟩ := toD_reads x' 4 _ A d ha h1
      obtain ⟨bs, b1, b2, b3⟩ := toD_reads x' 4 _ B d' hb h2
      exact SeqAt.eqAt_reads _ _ _ _ _ _ _ _ a1 b1 a2 b2 (by omega)
    · cases h
  unfold eqE at h
  split at h
  · split at h
    · rename_i i j e
      cases h
      subst e
      obtain ⟨p, e1, rfl⟩ := vr_obj ha; obtain ⟨q, e2, rfl⟩ := vr_obj hb
      have : p = q := Option.some.inj (e1.symm.trans e2)
      subst this
      exact SeqAt.EqAt.same _
    · exact key ha hb h
  · exact key ha hb h
theorem range_all_succ (n : Nat) (e : Nat → Bool) : (List.range (n + 1)).all e = (e 0 && (List.range n).all fun j => e (j + 1)) := by
  rw [List.range_succ_eq_map, List.all_cons, List.all_map]; rfl
theorem eqsE_at {ρ : Map} {hid : Hd} {st : St} {s : Shared} {A₀ : Around} (hu : A₀.units + 10 < cLine) (x : Rel cx ρ hid st s) : ∀ {vs ws : List V} {As Bs : List Value} {c : Bool}, VRs ρ vs As → VRs ρ ws Bs → eqsE st vs ws = some c →
    ∃ e : Nat → Bool, (∀ j A B, As[j]? = some A → Bs[j]? = some B → SeqAt.EqAt A₀ s A B (e j)) ∧ (List.range As.length).all e = c
  | _, _, _, _, c, .nil, .nil, h => by
    cases h
    exact ⟨fun _ => true, fun j A B h => by simp at h, rfl⟩
  | _, _, _, _, c, .cons x1 t1, .cons x2 t2, h => by
    unfold eqsE at h
    split at h
    · rename_i a b h1 h2
      cases h
      obtain ⟨e, e1, e2⟩ := eqsE_at hu x t1 t2 h2
      refine ⟨fun j => match j with | 0 => a | j + 1 => e j, fun j A B hA hB => ?_, ?_⟩
      · cases j with
        | zero => simp at hA hB; subst hA hB; exact eqE_at hu x x1 x2 h1
        | succ j => simp at hA hB; exact e1 j A B hA hB
      · rw [List.length_cons, range_all_succ]
        dsimp only
        rw [e2]
    · cases h
  | _, _, _, _, c, .nil, .cons _ _, h => by cases h
  | _, _, _, _, c, .cons _ _, .nil, h => by cases h
theorem eqX_at (ok : cx.Ok) {ρ : Map} {hid : Hd} {st : St} {s : Shared} (x : Rel cx ρ hid st s) {v w : V} {A B : Value} {c : Bool} (ha : VR ρ v A) (hb : VR ρ w B) (h : eqX st v w = some c) : SeqAt.RcAt cx.A s A B c ∧ SeqAt.RcNeAt cx.A s A B (!c) := by
  have hu := ok.units
  unfold eqX at h
  split at h
  · rename_i i j
    obtain ⟨p, hp, rfl⟩ := vr_obj ha
    obtain ⟨q, hq, rfl⟩ := vr_obj hb
    obtain ⟨fz, led, m, mloc, x'⟩ := id x
    split at h
    · rename_i xs ys hi hj
      obtain ⟨Xs, n1, g1, g2⟩ := x'.list_at hi hp
      obtain ⟨Ys, n2, k1, k2⟩ := x'.list_at hj hq
      have l1 : s.heap.IsList p.1 Xs.toArray := ⟨_, (x'.N _ g2).1, rfl, _, rfl⟩
      have l2 : s.heap.IsList q.1 Ys.toArray := ⟨_, (x'.N _ k2).1, rfl, _, rfl⟩
      have len1 := g1.length
      have len2 := k1.length
      split at h
      · rename_i hl
        obtain ⟨e, e1, e2⟩ := eqsE_at (A₀ := cx.A.in1) (by show cx.A.units + 1 + 10 < _; omega) x g1 k1 h
        have hsz : Xs.toArray.size = Ys.toArray.size := by simp; omega
        have he : ∀ j (h1 : j < Xs.toArray.size) (h2 : j < Ys.toArray.size), SeqAt.EqAt cx.A.in1 s Xs.toArray[j] Ys.toArray[j] (e j) := fun j h1 h2 => e1 j _ _ (by simp) (by simp)
        have r1 := SeqAt.RcAt.lists l1 l2 hsz (by omega) he
        have r2 := SeqAt.RcNeAt.lists l1 l2 hsz (by omega) he
        rw [List.size_toArray, e2] at r1 r2
        exact ⟨r1, r2⟩
      · rename_i hl
        cases h
        have hsz : (Xs.toArray.size != Ys.toArray.size) = true := by simp; omega
        exact ⟨SeqAt.RcAt.lists_lengths l1 l2 hsz (by omega), SeqAt.RcNeAt.lists_lengths l1 l2 hsz (by omega)⟩
    · cases h
  · cases h
theorem p_neX (ok : cx.Ok) : P2 cx (compareOp .NotEq) pNeX VR := by
  intro ρ hid st s x a A b B ha hb v st' h
  unfold pNeX at h
  split at h
  · rename_i c e
    cases h
    exact (eqX_at ok x ha hb e).2 _ _ _ _ (fin_same x (.bool _))
  · cases h
end
end Mine
set_option maxRecDepth 100000
namespace Mine
/-- facts of the type map -/
theorem m_owner : Manifest.owners.lookup (String.ofList ['p', 'a', 'm'].reverse) = some Manifest.sig_map := by kernel_rfl
theorem m_mro : mroOf (.type "map") = pure [.type "map", .type "object"] := by rw [mroOf_type]; kernel_rfl
theorem m_new : typeLookup (.type "map") "__new__" = pure (some (.builtin "map.__new__")) := by rw [typeLookup_type, builtinLookup_eq_fast]; kernel_rfl
theorem m_slot_init : Slot "map" "__init__" "object.__init__" :=
  .of (owner := "object") (n := "__init__") (by rw [typeLookup_type, builtinLookup_eq_fast]; kernel_rfl) (by decide +kernel) (by decide +kernel) (by decide +kernel)
    (by first | exact .inl (by decide +kernel) | exact .inr (by decide +kernel)) (by rw [isSubtype_type]; kernel_rfl)
theorem m_slot_iter : Slot "map" "__iter__" "map.__iter__" :=
  .of (owner := "map") (n := "__iter__") (by rw [typeLookup_type, builtinLookup_eq_fast]; kernel_rfl) (by decide +kernel) (by decide +kernel) (by decide +kernel)
    (by first | exact .inl (by decide +kernel) | exact .inr (by decide +kernel)) (by rw [isSubtype_type]; kernel_rfl)
theorem m_slot_next : Slot "map" "__next__" "map.__next__" :=
  .of (owner := "map") (n := "__next__") (by rw [typeLookup_type, builtinLookup_eq_fast]; kernel_rfl) (by decide +kernel) (by decide +kernel) (by decide +kernel)
    (by first | exact .inl (by decide +kernel) | exact .inr (by decide +kernel)) (by rw [isSubtype_type]; kernel_rfl)
theorem m_called : TypeCalled "map" "map.__new__" "object.__init__" :=
  ⟨by decide +kernel, by decide +kernel, ⟨_, _, m_mro⟩, madeBy_type m_mro m_new (by decide +kernel), by decide +kernel, by rw [isSubtype_type]; kernel_rfl, m_slot_init⟩
theorem m_typeCall (a b : Value) : checkTypeCall "map" ⟨[a, b], []⟩ = pure () := by kernel_rfl
theorem m_newCall (a b : Value) : checkBuiltinCall "map.__new__" ⟨[.type "map", a, b], []⟩ = pure () := by kernel_rfl
theorem m_entry_new : entryFor table "map.__new__" = some Builtin.«map.__new__» := entryFor_of_tree (by kernel_rfl)
theorem m_entry_next : entryFor table "map.__next__" = some Builtin.«map.__next__» := entryFor_of_tree (by kernel_rfl)
theorem m_entry_iter : entryFor table "map.__iter__" = some Builtin.«dict_keyiterator.__iter__» :=
  entryFor_alias (id' := "dict_keyiterator.__iter__") (by kernel_rfl) (by first | rfl | decide +kernel | (unfold String.splitOn; simp +decide [String.splitOnAux])) (by decide +kernel) (by kernel_rfl)
theorem m_args_iter (a : Value) : argsOk "map.__iter__" ⟨[a], []⟩ := by
  unfold argsOk; rw [signature?_of (id := "map.__iter__") (n := ['_', '_', 'r', 'e', 't', 'i', '_', '_']) (o := ['p', 'a', 'm']) (by kernel_rfl) m_owner]; kernel_rfl
theorem m_args_next (a : Value) : argsOk "map.__next__" ⟨[a], []⟩ := by
  unfold argsOk; rw [signature?_of (id := "map.__next__") (n := ['_', '_', 't', 'x', 'e', 'n', '_', '_']) (o := ['p', 'a', 'm']) (by kernel_rfl) m_owner]; kernel_rfl
theorem m_no_len : typeLookup (.type "map") "__len__" = pure none := by rw [typeLookup_type, builtinLookup_eq_fast]; kernel_rfl
theorem m_no_hint : typeLookup (.type "map") "__length_hint__" = pure none := by rw [typeLookup_type, builtinLookup_eq_fast]; kernel_rfl
theorem m_sub : isSubtype (.type "map") (.type "map") = pure true := by rw [isSubtype_type]; kernel_rfl
abbrev iterO (l : Addr) : Obj := { cls := .type "list_iterator", data := .fields #[.ref l, .int 0 0] }
abbrev tupO (I : Addr) : Obj := { cls := .type "tuple", data := .seq #[.ref I] }
abbrev mapO (T : Addr) : Obj := { cls := .type "map", data := .fields #[.ref T, .type "str"] }
theorem meets_map_new (l : Addr) (xs : Array Value) :
    Meets (Builtin.«map.__new__» ⟨[.type "map", .type "str", .ref l], []⟩) (fun _ R s => s.heap.IsList l xs ∧
      R (.ok (.ret (.ref (s.heap.objs.size + 2)))) { s with heap := ((s.heap.push (iterO l)).push (tupO s.heap.objs.size)).push (mapO (s.heap.objs.size + 1)) }) :=
  .of_wp fun prog w A R s h => by
    obtain ⟨hp, g, d, tk, os⟩ := s; obtain ⟨hl1, h⟩ := h
    have hsub := m_sub
    have hL1 : Heap.IsList (Shared.heap ⟨hp, g, d, tk, os⟩) l xs := hl1
    wp_walk using wpAny_pyIter_list hL1
    refine ⟨_, rfl, ?_⟩
    rw [Heap.size_push, Heap.size_push]
    exact h
section
variable {prog : Program} {w : World} {A : Around} {E : Value → Shared → Prop} {s : Shared}
theorem call_map {l : Addr} {xs : Array Value} {Q : Value → Shared → Prop} (hl : s.heap.IsList l xs)
    (h : Q (.ref (s.heap.objs.size + 2)) { s with heap := ((s.heap.push (iterO l)).push (tupO s.heap.objs.size)).push (mapO (s.heap.objs.size + 1)) }) :
    wpAny (model prog w) A (call (.type "map") [.type "str", .ref l]) Q E s := by
  refine callType_new m_called (by decide) (m_typeCall _ _) (m_newCall _ _) (fun obj => PySem.F.args_object_init_3 obj _ _) m_entry_new (meets_map_new l xs) ⟨hl, ?_, h⟩
  have e : s.heap.objs.size + 2 = ((s.heap.push (iterO l)).push (tupO s.heap.objs.size)).objs.size := by rw [Heap.size_push, Heap.size_push]
  rw [e]
  exact ⟨_, Heap.get?_push_size _ rfl, rfl⟩
theorem pyIter_map {M T : Addr} {Q : Value → Shared → Prop} (hz : s.heap.get? M = some (mapO T)) (h : Q (.ref M) s) : wpAny (model prog w) A (pyIter (.ref M)) Q E s := by
  have hT : s.TypeIs (.ref M) "map" := ⟨_, hz, rfl⟩
  refine wpAny_pyIter_slot hT m_slot_iter (wpAny_call_entry m_slot_iter hT m_entry_iter ?_ (m_args_iter _))
  show wpAny _ _ (ret (.ref M)) _ _ s
  exact wpAny_pure ⟨_, rfl, "map", _, hT, m_slot_next.lookup, h⟩
theorem map_next_item {M T I l : Addr} {i : Nat} {items : Array Value} {x : Value} {Q : Option Value → Shared → Prop} {Ex : Value → Shared → Prop} (hM : s.heap.get? M = some (mapO T)) (hT : s.heap.get? T = some (tupO I)) (hit : s.heap.IsListIter I l i) (hl : s.heap.IsList l items) (hx : items[i]? = some x) (hIM : I ≠ M)
    (h : ∀ h', h'.IsListIter I l (i + 1) → Heap.SameBut I s.heap h' → wpAny (model prog w) A.in1 (call (.type "str") [x]) (fun v s1 => Q (some v) s1) Ex { s with heap := h' })
    (hEx : ∀ e s1, Ex e s1 → ∃ K, s1.TypeIs e K ∧ isSubtype (.type K) (.type "StopIteration") = pure false ∧ E e s1) : wpAny (model prog w) A (pyNext (.ref M)) Q E s := by
  have hTy : s.TypeIs (.ref M) "map" := ⟨_, hM, rfl⟩
  unfold pyNext
  refine wpAny_bind (wpAny_attempt (wpAny_callSpecial?_slot (name := Str.ofString "__next__") hTy m_slot_next (wpAny_call_entry m_slot_next hTy m_entry_next ?_ (m_args_next _))))
  show wpAny _ _ (field (.ref M) 0 >>= _) _ _ s
  refine wpAny_bind (wpAny_field hM rfl (x := .ref T) rfl ?_)
  show wpAny _ _ (seqItems? (.ref T) >>= _) _ _ s
  refine wpAny_bind (wpAny_seqItems hT rfl ?_)
  dsimp only
  refine wpAny_bind ?_
  rw [show (#[Value.ref I] : Array Value) = [Value.ref I].toArray from rfl, List.forIn_toArray, List.forIn_cons]
  refine wpAny_bind (wpAny_bind (wpAny_holding (wpAny_nextOf_list_item hit hl hx fun h' hit' hs' => ?_)))
  refine wpAny_pure ?_
  dsimp only
  rw [List.forIn_nil]
  refine wpAny_pure ?_
  have hM' : h'.get? M = some (mapO T) := (hs'.2 M (Ne.symm hIM)).trans hM
  refine wpAny_bind (wpAny_field hM' rfl (x := .type "str") rfl ?_)
  refine wpAny_bind (wpAny_holding ?_)
  refine wpAny_mono (h h' hit' hs') (fun v s1 hv => ?_) fun e s1 he => ?_
  · exact wpAny_bind (wpAny_letGo (wpAny_pure ⟨_, rfl, wpAny_pure hv⟩))
  · obtain ⟨K, k1, k2, k3⟩ := hEx e s1 he
    refine wpAny_bind (wpAny_isInstance k1 k2 ?_)
    exact wpAny_throw k3
theorem map_next_end {M T I l : Addr} {i : Nat} {items : Array Value} {Q : Option Value → Shared → Prop} (hh : A.handled = none) (hM : s.heap.get? M = some (mapO T)) (hT : s.heap.get? T = some (tupO I)) (hit : s.heap.IsListIter I l i) (hl : s.heap.IsList l items) (hx : items[i]? = none)
    (h : ∀ h', Heap.ExtBut I s.heap h' → Q none { s with heap := h' }) : wpAny (model prog w) A (pyNext (.ref M)) Q E s := by
  have hTy : s.TypeIs (.ref M) "map" := ⟨_, hM, rfl⟩
  unfold pyNext
  refine wpAny_bind (wpAny_attempt (wpAny_callSpecial?_slot (name := Str.ofString "__next__") hTy m_slot_next (wpAny_call_entry m_slot_next hTy m_entry_next ?_ (m_args_next _))))
  show wpAny _ _ (field (.ref M) 0 >>= _) _ _ s
  refine wpAny_bind (wpAny_field hM rfl (x := .ref T) rfl ?_)
  show wpAny _ _ (seqItems? (.ref T) >>= _) _ _ s
  refine wpAny_bind (wpAny_seqItems hT rfl ?_)
  dsimp only
  refine wpAny_bind ?_
  rw [show (#[Value.ref I] : Array Value) = [Value.ref I].toArray from rfl, List.forIn_toArray, List.forIn_cons]
  refine wpAny_bind (wpAny_bind (wpAny_holding (wpAny_nextOf_list_end hh hit hl hx fun h' e hk he => ?_)))
  obtain ⟨o, ho, hc⟩ := he
  refine wpAny_bind (wpAny_isInstance (T := "StopIteration") (b := true) ⟨o, ho, hc⟩ isSubtype_stop ?_)
  exact wpAny_pure (h _ hk)
end
end Mine
namespace Mine
def cpsI (i : Int) : List Nat := cps (toString i)
/-- the text of a value; of an instance by its own method -/
def strP (rec : Nat → PM V) : V → PM V
  | .str l => fun st => if l.length ≤ 1000000 then .ok (.str l) st else .fail
  | .int i => fun st => if small i then .ok (.str (cpsI i)) st else .fail
  | .obj j => fun st => match st.sto[j]? with
    | some (.inst _) => PM.bind (rec j) (fun v => match v with | .str l => PM.pure (.str l) | _ => PM.fail) st
    | _ => .fail
  | _ => PM.fail
def cStr (rec : Nat → PM V) : List V → PM V
  | [v] => strP rec v
  | _ => PM.fail
def callS (mb : PM Fl) (j : Nat) : PM V := callP ["self"] mb [.obj j]
/-- places that are near -/
structure Near (cx : Cx) (A' : Around) (u : Nat) : Prop where
  frames : A'.frames = cx.A.frames
  handled : A'.handled = cx.A.handled
  depth : A'.depth = cx.A.depth
  units : A'.units ≤ cx.A.units + u
section
variable {cx : Cx}
theorem Near.refl : Near cx cx.A 0 := ⟨rfl, rfl, rfl, Nat.le_refl _⟩
theorem Near.in1 {A' : Around} {u : Nat} (h : Near cx A' u) : Near cx A'.in1 (u + 1) := ⟨h.frames, h.handled, h.depth, by have := h.units; show A'.units + 1 ≤ _; omega⟩
theorem near_ok (ok : cx.Ok) {A' : Around} {u : Nat} (h : Near cx A' u) (hu : u ≤ 30) (hn : 1 ≤ cx.n) : (cx.at A').Ok where
  bmain := ok.bmain
  kin := ok.kin
  top := ok.top
  below := ok.below
  frames := by show A'.frames = _; rw [h.frames]; exact ok.frames
  fframe := ok.fframe
  fkind := ok.fkind
  kind := ok.kind
  globals := ok.globals
  builtins := ok.builtins
  handled := by show A'.handled = _; rw [h.handled]; exact ok.handled
  depth := by have := ok.depth; show A'.depth + 4 * 0 + 4 < _; rw [h.depth]; omega
  units := by have := ok.units; have := h.units; show A'.units + 40 * 0 + 200 < _; omega
  cinj := ok.cinj
/-- what str() needs to know of the class -/
structure StrOf (cx : Cx) (k : Nat) (f : Addr) (mb : PM Fl) : Prop where
  lev : k + 1 ≤ cx.n
  find : findIn cx.K (.ref cx.C) "__str__" = some (some (.ref f))
  isf : isFn cx.K (.ref f) = true
  fn : Fn cx k f ["self"] mb
theorem small_log {i : Int} (h : small i = true) : i.natAbs.log2 < 1920 := by
  have h1 := small_iff h
  rcases Nat.eq_zero_or_pos i.natAbs with q | q
  · rw [q]; decide
  · have : i.natAbs.log2 < 64 := (Nat.log2_lt (by omega)).mpr h1
    omega
theorem vr_text {ρ : Map} (x : String) (t : Tok) : VR ρ (.str (cps x)) (.str (Str.ofString x) t) := by
  have h : Str.ofString x = ⟨(cps x).toArray⟩ := str_cps _
  rw [h]
  exact .str _ t (cps_ok x)
theorem str_call (ok : cx.Ok) {k : Nat} {f : Addr} {mb : PM Fl} (S : StrOf cx k f mb) {A' : Around} {u : Nat} (hA : Near cx A' u) (hu : u ≤ 20) {ρ : Map} {hid : Hd} {st st' : St} {s : Shared} (x : Rel cx ρ hid st s) {a : V} {A : Value} (ha : VR ρ a A) {v : V} (h : strP (callS mb) a st = .ok v st') :
    wpAny cx.M A' (call (.type "str") [A]) (fun W s' => ∃ ρ', ρ <+: ρ' ∧ Rel cx ρ' hid st' s' ∧ VR ρ' v W) (fun _ _ => False) s := by
  unfold strP at h
  split at h
  · obtain ⟨t, rfl⟩ := vr_str ha
    split at h
    · cases h
      exact P.str_of_str ⟨ρ, pre_refl ρ, x, ha⟩
    · cases h
  · obtain ⟨t, rfl⟩ := vr_int ha
    split at h
    · rename_i i hs
      cases h
      exact P.str_of_int (small_log hs) ⟨ρ, pre_refl ρ, x.toks _, vr_text _ _⟩
    · cases h
  · rename_i j
    obtain ⟨p, hp, rfl⟩ := vr_obj ha
    split at h
    · rename_i as hi
      obtain ⟨w, st1, e1, h1⟩ := bind_ok h
      split at h1
      · rename_i l
        cases h1
        obtain ⟨fz, led, m, mloc, x'⟩ := id x
        obtain ⟨Es, n', h1, h2, h3, h4, I⟩ := inst_at x' hi hp
        have hA2 := hA.in1.in1
        have hn := S.lev
        have hd := ok.depth
        have hun := ok.units
        have hAu := hA2.units
        refine kso_call (K := cx.K) (C := cx.C) (f := f) (by omega) (ok.kin.keeps x'.F.keep) I S.find S.isf ?_
        refine wpAny_call (S.fn.run A'.in1.in1 (near_ok ok hA2 (by omega) (by omega)) (by rw [hA2.depth]; omega) (by omega) x (.cons ha .nil) e1 fun ρ' W s' p1 r1 v1 => ?_)
        obtain ⟨t, rfl⟩ := vr_str v1
        exact ⟨ρ', p1, r1, v1⟩
      · cases h1
    · cases h
  · cases h
theorem pc_str (ok : cx.Ok) {k : Nat} {f : Addr} {mb : PM Fl} (S : StrOf cx k f mb) : PC cx (.type "str") (cStr (callS mb)) := by
  intro ρ hid st s x vs Vs hv v st' h
  unfold cStr at h
  split at h
  · obtain ⟨A, rfl, ha⟩ := vrs_one hv
    exact str_call ok S Near.refl (by omega) x ha h
  · cases h
/-- a list's items change -/
theorem upd_list {ρ : Map} {hid : Hd} {st : St} {s : Shared} (x : Rel cx ρ hid st s) {i : Nat} {p : Addr × Addr} {xs ys : List V} (hp : ρ[i]? = some p) (hi : st.sto[i]? = some (.list xs)) (hl : xs.length ≤ 1000001) {f : Array Value → Array Value}
    (hf : ∀ Xs : List Value, VRs ρ xs Xs → ∃ Ys : List Value, f Xs.toArray = Ys.toArray ∧ VRs ρ ys Ys ∧ Ys.length ≤ Xs.length + 1) {A : Around} {E : Value → Shared → Prop} {Q : Unit → Shared → Prop}
    (k : ∀ h', Rel cx ρ hid { st with sto := st.sto.set i (.list ys) } { s with heap := h' } → Q () { s with heap := h' }) : wpAny cx.M A (updateSeq p.1 f) Q E s := by
  obtain ⟨fz, led, m, mloc, x'⟩ := id x
  obtain ⟨Xs, n, g1, g2⟩ := x'.list_at hi hp
  obtain ⟨Ys, e1, e2, e3⟩ := hf Xs g1
  have hlen := g1.length
  have hg := x'.N _ g2
  have hsz : sizeLine = 16777216 := by decide
  have hm : ∃ n', Obj.mapSeq f (listOf Xs.toArray n) = listOf Ys.toArray n' := by
    unfold Obj.mapSeq
    dsimp only
    rw [e1]
    exact ⟨_, rfl⟩
  obtain ⟨n', hm⟩ := hm
  refine wpAny_updateSeq hg.1 rfl (k _ ?_) (by rw [List.size_toArray]; omega) (by rw [e1, List.size_toArray]; omega)
  have q : (s.heap.update p.1 (Obj.mapSeq f)).get? p.1 = some (listOf Ys.toArray n') := by rw [Heap.get?_update_self _ hg.1 (by rw [hm]; rfl), hm]
  have hs : Heap.SameBut p.1 s.heap (s.heap.update p.1 (Obj.mapSeq f)) := Heap.SameBut.update ..
  exact x'.put_list (tk := s.toks) hp g2 e2 (Fr.sameBut x'.F hs hg.2.1 hg.2.2) (News.updL x'.N g2 hs q)
end
/-- list.extend of the texts of a list's items -/
noncomputable def mapLoop (rec : Nat → PM V) (i : Nat) (src : Src) : List V → PM V
  | [] => PM.bind (chk src) fun _ => PM.pure .none
  | x :: r => PM.bind (chk src) fun _ => PM.bind (strP rec x) fun v => PM.bind (cAppend [.obj i, v]) fun _ => mapLoop rec i src r
noncomputable def extMap (rec : Nat → PM V) : V → V → PM V
  | .obj i, .obj j => fun st => match st.sto[i]?, st.sto[j]? with
    | some (.list xs), some (.list ys) => if xs.length ≤ 1000000 then mapLoop rec i (some (j, .list ys)) ys st else .fail
    | _, _ => .fail
  | _, _ => PM.fail
section
variable {cx : Cx}
theorem hid_get {ρ : Map} {hid : Hd} {st : St} {s : Shared} (x : Rel cx ρ hid st s) {q : Addr × Obj} (h : q ∈ hid.h) : s.heap.get? q.1 = some q.2 := by
  obtain ⟨fz, led, m, mloc, x⟩ := x
  exact (x.N _ (x.B.hin _ h)).1
theorem append_ok {i : Nat} {v r : V} {st st' : St} (h : cAppend [.obj i, v] st = .ok r st') : ∃ xs, st.sto[i]? = some (.list xs) ∧ xs.length ≤ 1000000 ∧ r = .none ∧ st' = { st with sto := st.sto.set i (.list (xs ++ [v])) } := by
  unfold cAppend at h
  dsimp only at h
  split at h
  · rename_i xs e
    split at h
    · rename_i hl
      cases h
      exact ⟨xs, e, hl, rfl, rfl⟩
    · cases h
  · cases h
theorem ext_loop (ok : cx.Ok) {k : Nat} {f : Addr} {mb : PM Fl} (S : StrOf cx k f mb) {A' : Around} {u : Nat} (hA : Near cx A' u) (hu : u ≤ 10) {i j : Nat} {all : List V} {M T I : Addr} {pi pj : Addr × Addr} {hid : Hd} (hM : ∀ q ∈ hid.h, q.1 ≠ M) (hT : ∀ q ∈ (hid.cons (M, mapO T)).h, q.1 ≠ T) (hI : ∀ q ∈ ((hid.cons (M, mapO T)).cons (T, tupO I)).h, q.1 ≠ I) :
    ∀ (xs : List V) (n : Nat) (o : Obj) (ρ : Map) (st st' : St) (s : Shared) (v : V), all = all.take n ++ xs → n + xs.length = all.length → o.cls = .type "list_iterator" → o.data = .fields #[.ref pj.1, .int n 0] →
      Rel cx ρ (((hid.cons (M, mapO T)).cons (T, tupO I)).cons (I, o)) st s → ρ[i]? = some pi → ρ[j]? = some pj → mapLoop (callS mb) i (some (j, .list all)) xs st = .ok v st' →
      ∀ {R : Result → Shared → Prop}, (∀ ρ' s', ρ <+: ρ' → Rel cx ρ' hid st' s' → v = .none → R (.ok (.ret .none)) s') → codeAny cx.M A' (.builtin "list.extend.loop" ⟨[.ref pi.1, .ref M, .none], []⟩) R s
  | [], n, o, ρ, st, st', s, v, hall, hn, oc, od, x, hpi, hpj, h, R, hR => by
    unfold mapLoop at h
    obtain ⟨_, st1, e1, h1⟩ := bind_ok h
    obtain ⟨rfl, hs⟩ := chk_ok e1
    cases h1
    have hj := hs _ rfl
    refine codeAny_builtin PySem.F.entry_extend_loop ?_
    rw [Around.under_plainId PySem.F.plain_extend_loop _]
    show wpAny _ A'.in1 (pyNext (.ref M) >>= _) _ _ s
    have gI := hid_get x (q := (I, o)) (.head _)
    have gT := hid_get x (q := (T, tupO I)) (.tail _ (.head _))
    have gM := hid_get x (q := (M, mapO T)) (.tail _ (.tail _ (.head _)))
    obtain ⟨fz, led, m, mloc, x'⟩ := id x
    obtain ⟨Xs, n', g1, g2⟩ := x'.list_at hj hpj
    have hit : s.heap.IsListIter I pj.1 n := ⟨o, gI, oc, od⟩
    have hh : A'.in1.handled = none := by rw [hA.in1.handled]; exact ok.handled
    refine wpAny_bind (map_next_end hh gM gT hit ⟨_, (x'.N _ g2).1, rfl, _, rfl⟩ ?_ fun h' hk => ?_)
    · rw [List.getElem?_toArray]
      refine List.getElem?_eq_none ?_
      rw [← g1.length, ← hn]; simp
    · exact wpAny_pure (hR ρ _ (pre_refl ρ) ((x.dropI (tk := s.toks) hI fun b ob hb e => hk b ob hb e).less.less) rfl)
  | y :: r, n, o, ρ, st, st', s, v, hall, hn, oc, od, x, hpi, hpj, h, R, hR => by
    unfold mapLoop at h
    obtain ⟨_, st1, e1, h1⟩ := bind_ok h
    obtain ⟨rfl, hs⟩ := chk_ok e1
    obtain ⟨w, st2, e2, h2⟩ := bind_ok h1
    obtain ⟨_, st3, e3, h3⟩ := bind_ok h2
    have hj := hs _ rfl
    refine codeAny_builtin PySem.F.entry_extend_loop ?_
    rw [Around.under_plainId PySem.F.plain_extend_loop _]
    show wpAny _ A'.in1 (pyNext (.ref M) >>= _) _ _ s
    have gI := hid_get x (q := (I, o)) (.head _)
    have gT := hid_get x (q := (T, tupO I)) (.tail _ (.head _))
    have gM := hid_get x (q := (M, mapO T)) (.tail _ (.tail _ (.head _)))
    obtain ⟨fz, led, m, mloc, x'⟩ := id x
    obtain ⟨Xs, n', g1, g2⟩ := x'.list_at hj hpj
    have hit : s.heap.IsListIter I pj.1 n := ⟨o, gI, oc, od⟩
    have hy : all[n]? = some y := by
      rw [hall, List.getElem?_append_right (by simp; omega)]
      have : n - (all.take n).length = 0 := by simp; simp at hn; omega
      rw [this]; rfl
    obtain ⟨Y, w1, w2⟩ := vrs_get g1 hy
    have hIM : I ≠ M := fun e => hI (M, mapO T) (.tail _ (.head _)) e.symm
    refine wpAny_bind (map_next_item (Ex := fun _ _ => False) gM gT hit ⟨_, (x'.N _ g2).1, rfl, _, rfl⟩ (by rw [List.getElem?_toArray]; exact w1) hIM (fun h' hit' hs' => ?_) fun _ _ z => z.elim)
    obtain ⟨o', ho', oc', od'⟩ := hit'
    have x2 := x.turn (tk := s.toks) hI (fun b ob hb e => (hs'.2 b hb).trans e) ho'
    refine wpAny_mono (str_call ok S hA.in1.in1 (by omega) x2 w2 e2) (fun W s2 hq => ?_) fun _ _ z => z
    obtain ⟨ρ2, p2, r2, v2⟩ := hq
    obtain ⟨zs, q1, q2, rfl, rfl⟩ := append_ok e3
    show wpAny _ A'.in1 (updateSeq pi.1 (·.push W) >>= _) _ _ _
    refine wpAny_bind (upd_list r2 (get_mono p2 hpi) q1 (by omega) (ys := zs ++ [w]) (fun Zs hz => ⟨Zs ++ [W], by simp, vrs_append hz (.cons v2 .nil), by simp⟩) fun h'' r3 => ?_)
    refine wpAny_pure ⟨plainId_quiet PySem.F.plain_extend_loop _, ?_⟩
    refine ext_loop ok S hA hu hM hT hI r (n + 1) o' ρ2 _ st' _ v ?_ (by simp at hn ⊢; omega) oc' od' r3 (get_mono p2 hpi) (get_mono p2 hpj) h3 fun ρ' s' p3 r4 hv => hR ρ' s' (pre_trans p2 p3) r4 hv
    have : all.take (n + 1) = all.take n ++ [y] := by rw [List.take_succ, hy]; rfl
    rw [this]
    rw [List.append_assoc]
    exact hall
end
end Mine
namespace Mine
section
variable {cx : Cx}
theorem Rel.sub {ρ : Map} {hid hid' : Hd} {st : St} {s : Shared} (x : Rel cx ρ hid st s) (hs : ∀ q ∈ hid'.h, q ∈ hid.h) (hz : hid'.z = hid.z) : Rel cx ρ hid' st s := by
  obtain ⟨fz, led, m, mloc, x⟩ := x
  refine ⟨fz, led, m, mloc, x.F, x.N, ?_, x.gens, x.os, x.tk⟩
  have B := x.B
  refine ⟨B.nd, B.cm, ?_, B.len, B.own, B.obj, B.sep, fun r hr => B.hin r (hs r hr), fun r hr => B.hsep r (hs r hr), B.cel, fun y c hc => ⟨fun r hr => (B.csep y c hc).1 r (hs r hr), (B.csep y c hc).2⟩, B.fin, by rw [hz]; exact B.fz0, fun r hr => B.hfz r (hs r hr), B.fsep, B.fcel, B.loc⟩
  rcases B.ln with h | ⟨g1, o, es, ep, g2, g3, g4, g5, g6, g7, g8, g9⟩
  · exact .inl h
  · exact .inr ⟨g1, o, es, ep, g2, g3, g4, g5, g6, fun r hr => g7 r (hs r hr), g8, g9⟩
theorem hid_sep {ρ : Map} {hid : Hd} {st : St} {s : Shared} (x : Rel cx ρ hid st s) {q : Addr × Obj} (h : q ∈ hid.h) {i : Nat} {p : Addr × Addr} (hp : ρ[i]? = some p) : q.1 ≠ p.1 := by
  obtain ⟨fz, led, m, mloc, x⟩ := x
  exact (x.B.hsep q h p (mem_of_get hp)).1
theorem set_none_back {st : St} {i : Nat} {xs ys : List V} (h : st.sto[i]? = some (.list xs)) : ({ st with sto := (st.sto.set i (.list ys)).set i (.list xs) } : St) = st := by
  have : (st.sto.set i (.list ys)).set i (.list xs) = st.sto := by
    rw [List.set_set]
    apply List.ext_getElem?
    intro k
    by_cases q : k = i
    · subst q; rw [List.getElem?_set_self (get_lt h), h]
    · rw [List.getElem?_set_ne (Ne.symm q)]
  rw [this]
theorem ext_call (ok : cx.Ok) {k : Nat} {f : Addr} {mb : PM Fl} (S : StrOf cx k f mb) {i j : Nat} {M T I : Addr} {pi pj : Addr × Addr} {hid : Hd} (hM : ∀ q ∈ hid.h, q.1 ≠ M) (hT : ∀ q ∈ (hid.cons (M, mapO T)).h, q.1 ≠ T) (hI : ∀ q ∈ ((hid.cons (M, mapO T)).cons (T, tupO I)).h, q.1 ≠ I)
    {ρ : Map} {st st' : St} {s : Shared} {v : V} (x : Rel cx ρ (((hid.cons (M, mapO T)).cons (T, tupO I)).cons (I, iterO pj.1)) st s) (hpi : ρ[i]? = some pi) (hpj : ρ[j]? = some pj) (h : extMap (callS mb) (.obj i) (.obj j) st = .ok v st') :
    wpAny cx.M cx.A (call (.builtin "list.extend") [.ref pi.1, .ref M]) (fun W s' => ∃ ρ', ρ <+: ρ' ∧ Rel cx ρ' hid st' s' ∧ VR ρ' v W) (fun _ _ => False) s := by
  unfold extMap at h
  dsimp only at h
  split at h
  · rename_i xs ys hi hj
    split at h
    · rename_i hl
      have gM := hid_get x (q := (M, mapO T)) (.tail _ (.tail _ (.head _)))
      have hTy : s.TypeIs (.ref M) "map" := ⟨_, gM, rfl⟩
      obtain ⟨fz, led, m, mloc, x'⟩ := id x
      obtain ⟨Xs, n, g1, g2⟩ := x'.list_at hi hpi
      have hLy : s.TypeIs (.ref pi.1) "list" := ⟨_, (x'.N _ g2).1, rfl⟩
      refine wpAny_call (codeAny_call_builtin PySem.F.slot_list_extend.plain PySem.F.entry_list_extend (PySem.F.slot_list_extend.check _ _ _ _ _ _ _ _ hLy (PySem.F.args_list_extend_2 _ _) ?_))
      show wpAny _ cx.A.in1 (Builtin.List.listExtendWith (.ref pi.1) (.ref M) .none) _ _ s
      have hSM : pi.1 ≠ M := Ne.symm (hid_sep x (q := (M, mapO T)) (.tail _ (.tail _ (.head _))) hpi)
      unfold Builtin.List.listExtendWith
      refine wpAny_bind (wpAny_typeOf hTy ?_)
      have h1 : Builtin.List.listSameRef (.ref pi.1) (.ref M) = false := by simp [Builtin.List.listSameRef, hSM]
      have h2 : (Value.type "map" == Value.type "list") = false := by decide
      have h3 : (Value.type "map" == Value.type "tuple") = false := by decide
      simp only [h1, h2, h3, Bool.or_false, Bool.false_eq_true, if_false]
      refine wpAny_bind (pyIter_map gM ?_)
      refine wpAny_bind (wpAny_holding ?_)
      unfold Builtin.List.listLengthHint
      refine wpAny_bind (wpAny_specialOf hTy m_no_len ?_)
      show wpAny _ cx.A.in1 (specialOf (Value.ref M) (Str.ofString "__length_hint__") >>= _) _ _ _
      refine wpAny_bind (wpAny_specialOf hTy m_no_hint ?_)
      refine wpAny_pure ?_
      show wpAny _ cx.A.in1 (rule "list.extend.makes-room" >>= fun _ => Builtin.List.listTouch (.ref pi.1) >>= fun _ =>
        again (.builtin "list.extend.loop" ⟨[.ref pi.1, .ref M, .none], []⟩)) _ _ _
      refine wpAny_bind (wpAny_rule ?_)
      refine wpAny_bind ?_
      show wpAny _ cx.A.in1 (updateSeq pi.1 (·.push .none) >>= fun _ => updateSeq pi.1 (·.pop)) _ _ _
      refine wpAny_bind (upd_list x hpi hi (by omega) (ys := xs ++ [.none]) (fun Zs hz => ⟨Zs ++ [.none], by simp, vrs_append hz (.cons .none .nil), by simp⟩) fun h' r1 => ?_)
      refine upd_list r1 hpi (List.getElem?_set_self (get_lt hi)) (by simp; omega) (ys := xs) (fun Zs hz => ?_) fun h'' r2 => ?_
      · obtain ⟨Ys, W, rfl, g1, g2⟩ := vrs_snoc hz
        exact ⟨Ys, by simp, g1, by simp; omega⟩
      · have r2 : Rel cx ρ (((hid.cons (M, mapO T)).cons (T, tupO I)).cons (I, iterO pj.1)) { st with sto := (st.sto.set i (.list (xs ++ [.none]))).set i (.list xs) } { s with heap := h'' } := r2
        rw [set_none_back hi] at r2
        refine wpAny_pure ⟨plainId_quiet PySem.F.plain_extend_loop _, ?_⟩
        refine ext_loop ok S Near.refl (by omega) hM hT hI ys 0 (iterO pj.1) ρ st st' _ v (by simp) (by simp) rfl rfl r2 hpi hpj h fun ρ' s' p1 r3 hv => ?_
        subst hv
        exact ⟨ρ', p1, r3, .none⟩
    · cases h
  · cases h
set_option maxRecDepth 100000 in
theorem sim_ExtMap (ok : cx.Ok) {k : Nat} {f : Addr} {mb : PM Fl} (S : StrOf cx k f mb) {o e : Expr} {apos pos mpos np sp : Pos} {mo ml : PM V} (ho : SimV cx (eval o cx.env) mo) (hmap : SimV cx (eval (.Name "map" np) cx.env) (PM.pure (.glob (.type "map")))) (hstr : SimV cx (eval (.Name "str" sp) cx.env) (PM.pure (.glob (.type "str"))))
    (hl : SimV cx (eval e cx.env) ml) (hst : isStarred e = false) (hb : plainBase o = true) (hline : (apos.endLine == pos.line) = true) :
    SimV cx (eval (.Call (.Attribute o "extend" apos) [.Call (.Name "map" np) [.Name "str" sp, e] [] mpos] [] pos) cx.env) (PM.bind mo fun v => PM.bind (isList v) fun _ => PM.bind ml fun l => extMap (callS mb) v l) := by
  intro ρ hid st s x v st' h
  obtain ⟨a, st1, e1, h1⟩ := bind_ok h
  obtain ⟨_, st2, e2, h2⟩ := bind_ok h1
  obtain ⟨b, st3, e3, h3⟩ := bind_ok h2
  clear h h1 h2
  have hplain : (backTo pos (starEach [.Call (.Name "map" np) [.Name "str" sp, e] [] mpos] cx.env)).any (·.1) = false := plain_cons rfl plain_nil
  have hplain2 : (backTo mpos (starEach [.Name "str" sp, e] cx.env)).any (·.1) = false := plain_cons rfl (plain_cons hst plain_nil)
  refine MethodCall_ (wp_seq (ho ρ hid st s x a st1 e1) fun A s1 ρ1 p1 r1 v1 => ?_) (meth_form (cx := cx) hb hplain rfl hline)
  unfold isList at e2
  split at e2
  · rename_i i
    obtain ⟨p, hp', rfl⟩ := vr_obj v1
    split at e2
    · rename_i xs hi
      cases e2
      obtain ⟨fz, led, m, mloc, r'⟩ := id r1
      obtain ⟨Xs, n, g1, g2⟩ := r'.list_at hi hp'
      refine kl_method r'.N g2 PySem.F.slot_list_extend rfl ?_
      refine callWith_of (P := cx.K.In) (by rw [hplain]; rfl) keep_builtin (evalArgs_of hplain ?_)
      rw [star_plain rfl]
      refine spliced_cons ?_
      rw [call_name]
      refine wpAny_bind (wp_seq (hmap ρ1 hid st1 s1 r1 _ _ rfl) fun U s2 ρ2 p2 r2 v2 => ?_)
      cases vr_glob v2
      refine callWith_of (P := cx.K.In) (by rw [hplain2]; rfl) keep_type (evalArgs_of hplain2 ?_)
      rw [star_plain rfl, star_plain hst]
      refine spliced_cons (wp_seq (hstr ρ2 hid st1 s2 r2 _ _ rfl) fun U s3 ρ3 p3 r3 v3 => ?_)
      cases vr_glob v3
      refine spliced_cons (wp_seq (hl ρ3 hid st1 s3 r3 b st3 e3) fun B s4 ρ4 p4 r4 v4 => spliced_nil ?_)
      have kin : ∀ {ρ : Map} {hid : Hd} {st : St} {s : Shared}, Rel cx ρ hid st s → cx.K.In s.heap := fun r => by
        obtain ⟨fz, led, m, mloc, r⟩ := r
        exact ok.kin.keeps r.F.keep
      refine ⟨kin r4, ?_⟩
      have pp := pre_trans p2 (pre_trans p3 p4)
      have hpi := get_mono pp hp'
      -- the list
      have hb2 : ∃ j ys, b = .obj j ∧ st3.sto[j]? = some (.list ys) := by
        cases b <;> try (cases h3; done)
        rename_i j
        unfold extMap at h3
        dsimp only at h3
        split at h3
        · rename_i q1 q2
          exact ⟨j, _, rfl, q2⟩
        · cases h3
      obtain ⟨j, ys, rfl, hj⟩ := hb2
      obtain ⟨pj, hpj, rfl⟩ := vr_obj v4
      obtain ⟨fz4, led4, m4, mloc4, r4'⟩ := id r4
      obtain ⟨Ys, n4, g3, g4⟩ := r4'.list_at hj hpj
      have hit : s4.heap.IsList pj.1 Ys.toArray := ⟨_, (r4'.N _ g4).1, rfl, _, rfl⟩
      refine call_map hit ?_
      obtain ⟨y1, n1⟩ := r4.hide (ob := iterO pj.1) (tk := s4.toks) rfl
      obtain ⟨y2, n2⟩ := y1.hide (ob := tupO s4.heap.objs.size) (tk := s4.toks) rfl
      obtain ⟨y3, n3⟩ := y2.hide (ob := mapO (s4.heap.objs.size + 1)) (tk := s4.toks) rfl
      dsimp only at n2 n3 y2 y3
      rw [Heap.size_push] at n2 y2
      rw [Heap.size_push, Heap.size_push] at n3 y3
      have y4 : Rel cx ρ4 (((hid.cons (s4.heap.objs.size + 2, mapO (s4.heap.objs.size + 1))).cons (s4.heap.objs.size + 1, tupO s4.heap.objs.size)).cons (s4.heap.objs.size, iterO pj.1)) st3
          { s4 with heap := ((s4.heap.push (iterO pj.1)).push (tupO s4.heap.objs.size)).push (mapO (s4.heap.objs.size + 1)) } := by
        refine y3.sub (fun q hq => ?_) rfl
        rcases List.mem_cons.mp hq with rfl | hq
        · exact .tail _ (.tail _ (.head _))
        · rcases List.mem_cons.mp hq with rfl | hq
          · exact .tail _ (.head _)
          · rcases List.mem_cons.mp hq with rfl | hq
            · exact .head _
            · exact .tail _ (.tail _ (.tail _ hq))
      refine spliced_nil ⟨kin y4, ?_⟩
      refine wpAny_mono (ext_call ok S ?_ ?_ ?_ y4 hpi hpj h3) (fun W s5 hq => ?_) fun _ _ z => z
      · intro q hq
        have := n3 q (.tail _ (.tail _ hq))
        rw [Heap.size_push] at this
        exact this
      · intro q hq
        rcases List.mem_cons.mp hq with rfl | hq
        · show s4.heap.objs.size + 2 ≠ s4.heap.objs.size + 1; omega
        · exact n2 q (.tail _ hq)
      · intro q hq
        rcases List.mem_cons.mp hq with rfl | hq
        · show s4.heap.objs.size + 1 ≠ s4.heap.objs.size; omega
        · rcases List.mem_cons.mp hq with rfl | hq
          · show s4.heap.objs.size + 2 ≠ s4.heap.objs.size; omega
          · exact n1 q hq
      · obtain ⟨ρ5, p5, r5, v5⟩ := hq
        exact ⟨ρ5, pre_trans p1 (pre_trans pp p5), r5, v5⟩
    · cases e2
  · cases e2
end
end Mine
namespace Mine
/-- f-strings -/
def fmtP : V → PM V
  | .str l => fun st => if l.length ≤ 1000000 then .ok (.str l) st else .fail
  | .int i => fun st => if small i then .ok (.str (cpsI i)) st else .fail
  | _ => PM.fail
def joinP : List Nat → List (PM V) → PM V
  | out, [] => PM.pure (.str out)
  | out, p :: r => PM.bind p fun v => match v with
    | .str y => fun st => if out.length + y.length ≤ 1000000 then joinP (out ++ y) r st else .fail
    | _ => PM.fail
section
variable {cx : Cx}
theorem sim_Fmt {e : Expr} {pos : Pos} {m : PM V} (h : SimV cx (eval e cx.env) m) : SimV cx (eval (.FormattedValue e (-1) none pos) cx.env) (PM.bind m fmtP) := by
  intro ρ hid st s x v st' h0
  obtain ⟨a, st1, e1, h1⟩ := bind_ok h0
  refine FormattedValue_plain (wp_seq (h ρ hid st s x a st1 e1) fun A s1 ρ1 p1 r1 v1 => ?_)
  unfold fmtP at h1
  split at h1
  · split at h1
    · rename_i l hl
      cases h1
      have ho := vr_ok v1
      obtain ⟨t, rfl⟩ := vr_str v1
      exact lf r1.pos (PyProof.Rows.formatField_str (fun t' tk htk => ⟨ρ1, p1, r1.toks tk htk, .str _ t' ho⟩) (by rw [str_len]; exact list_fits hl))
    · cases h1
  · split at h1
    · rename_i i hs
      cases h1
      obtain ⟨t, rfl⟩ := vr_int v1
      exact PyProof.Rows.formatField_int_small (small_log hs) ⟨ρ1, p1, r1.toks _, vr_text _ _⟩
    · cases h1
  · cases h1
abbrev SimPs (cx : Cx) (es : List Expr) (ps : List (PM V)) : Prop := Paired (fun e p => SimV cx (eval e cx.env) p) es ps
theorem sim_parts_nil : SimPs cx [] [] := .nil
theorem sim_parts_cons {e : Expr} {es : List Expr} {p : PM V} {ps : List (PM V)} (h1 : SimV cx (eval e cx.env) p) (h2 : SimPs cx es ps) : SimPs cx (e :: es) (p :: ps) := .cons h1 h2
theorem join_parts : ∀ {es : List Expr} {ps : List (PM V)}, SimPs cx es ps → ∀ (out : List Nat), okS out → out.length ≤ 1000000 → Sim cx (joinParts ⟨out.toArray⟩ (evalEach es cx.env)) (joinP out ps) VR
  | _, _, .nil, out, ho, hl => by
    intro ρ hid st s x v st' h
    cases h
    exact PyProof.Rows.joinParts_nil ⟨ρ, pre_refl ρ, x.toks _, .str _ _ ho⟩ (by rw [str_len]; exact list_fits hl)
  | _, _, .cons h1 h2, out, ho, hl => by
    intro ρ hid st s x v st' h
    unfold joinP at h
    obtain ⟨a, st1, e1, h3⟩ := bind_ok h
    show wpAny _ _ (joinParts ⟨out.toArray⟩ (eval _ cx.env :: evalEach _ cx.env)) _ _ _
    refine PyProof.Rows.joinParts_cons (wp_seq (h1 ρ hid st s x a st1 e1) fun A s1 ρ1 p1 r1 v1 => ?_)
    split at h3
    · rename_i y
      split at h3
      · rename_i hl2
        have hy := vr_ok v1
        obtain ⟨t, rfl⟩ := vr_str v1
        dsimp only
        refine ⟨by rw [str_app, str_len, List.length_append]; exact list_fits hl2, ?_⟩
        rw [str_app]
        refine wp_seq (join_parts h2 (out ++ y) (okS_append ho hy) (by simpa using hl2) ρ1 hid st1 s1 r1 v st' h3) fun W s2 ρ2 p2 r2 v2 => ⟨ρ2, pre_trans p1 p2, r2, v2⟩
      · cases h3
    · cases h3
theorem sim_JoinedStr {e1 e2 : Expr} {es : List Expr} {pos : Pos} {p1 p2 : PM V} {ps : List (PM V)} (h : SimPs cx (e1 :: e2 :: es) (p1 :: p2 :: ps)) : SimV cx (eval (.JoinedStr (e1 :: e2 :: es) pos) cx.env) (joinP [] (p1 :: p2 :: ps)) := by
  intro ρ hid st s x v st' h0
  exact PyProof.Rows.JoinedStr_many (join_parts h [] (fun c hc => by cases hc) (by simp) ρ hid st s x v st' h0)
end
theorem strOf_ok {cx : Cx} (_ok : cx.Ok) {k : Nat} {f : Addr} {mb : PM Fl} (h1 : k + 1 ≤ cx.n) (h2 : findIn cx.K (.ref cx.C) "__str__" = some (some (.ref f))) (h3 : isFn cx.K (.ref f) = true) (h4 : Fn cx k f ["self"] mb) : StrOf cx k f mb := ⟨h1, h2, h3, h4⟩
end Mine
namespace Mine
section
variable {cx : Cx}
end
end Mine
set_option linter.unusedVariables false
namespace Mine
theorem bind_exc {α β : Type} {m : PM α} {f : α → PM β} {st st' : St} {k : String} (h : PM.bind m f st = .exc k st') : m st = .exc k st' ∨ ∃ a st₁, m st = .ok a st₁ ∧ f a st₁ = .exc k st' := by
  unfold PM.bind at h
  cases e : m st with
  | ok a st₁ => rw [e] at h; exact .inr ⟨a, st₁, rfl, h⟩
  | exc k₁ st₁ => rw [e] at h; cases h; exact .inl rfl
  | fail => rw [e] at h; cases h
/-- the frames around the current one -/
abbrev Cx.fes (cx : Cx) : List Addr := cx.outer.filterMap (·.frame)
/-- the same place, the frames around not looked at -/
abbrev Cx.low (cx : Cx) : Cx := { cx with h₀ := hideAll cx.h₀ cx.fes }
def UTS (cx : Cx) (h : Heap) : Prop := ∀ b ∈ cx.fes, ∀ o, cx.h₀.get? b = some o → ∃ sl, h.get? b = some { o with slots := sl }
structure XD (cx : Cx) (ρ : Map) (hid : Hd) (fz led : Led) (m mloc : Str → Option Value) (st : St) (s : Shared) : Prop where
  r : RelD cx.low ρ hid fz led m mloc st s
  u : UTS cx s.heap
  d : ∀ q ∈ led, q.1 ∉ cx.fes
def XR (cx : Cx) (ρ : Map) (hid : Hd) (st : St) (s : Shared) : Prop := ∃ fz led m mloc, XD cx ρ hid fz led m mloc st s
section
variable {cx : Cx}
theorem Bear.chH {g : Heap} {ρ : Map} {hid : Hd} {fz led : Led} {m mloc : Str → Option Value} {st : St} (B : Bear cx ρ hid fz led m mloc st) : Bear { cx with h₀ := g } ρ hid fz led m mloc st := by
  have oat : ∀ {p : Addr × Addr} {o : O}, OAt cx ρ fz led p o → OAt { cx with h₀ := g } ρ fz led p o := fun {p o} h => by cases o <;> exact h
  exact ⟨B.nd, B.cm, B.ln, B.len, B.own, fun i o p h1 h2 => oat (B.obj i o p h1 h2), B.sep, B.hin, B.hsep, B.cel, B.csep, B.fin, B.fz0, B.hfz, B.fsep, B.fcel, B.loc⟩
theorem Bear.unH {g : Heap} {ρ : Map} {hid : Hd} {fz led : Led} {m mloc : Str → Option Value} {st : St} (B : Bear { cx with h₀ := g } ρ hid fz led m mloc st) : Bear cx ρ hid fz led m mloc st := Bear.chH (cx := { cx with h₀ := g }) (g := cx.h₀) B
theorem ns_slots {h h' : Heap} {a : Addr} {m : Str → Option Value} {o : Obj} {sl : Array (Option Value)} (hn : h.Ns a m) (ho : h.get? a = some o) (ho' : h'.get? a = some { o with slots := sl }) : h'.Ns a m := by
  obtain ⟨o1, es, ep, h1, hd, r⟩ := hn
  rw [ho] at h1
  cases h1
  exact ⟨_, es, ep, ho', hd, r⟩
theorem ns_keeps {h h' : Heap} {a : Addr} {m : Str → Option Value} (hn : h.Ns a m) (k : ∀ o, h.get? a = some o → h'.get? a = some o) : h'.Ns a m := by
  obtain ⟨o1, es, ep, h1, r⟩ := hn
  exact ⟨o1, es, ep, k _ h1, r⟩
theorem hide_none {h : Heap} {as : List Addr} {b : Addr} (e : h.get? b = none) : (hideAll h as).get? b = none := by
  cases q : (hideAll h as).get? b with
  | none => rfl
  | some o => have := of_hideAll _ q; rw [e] at this; cases this
theorem hide_not {h : Heap} {as : List Addr} {b : Addr} {o : Obj} (e : (hideAll h as).get? b = some o) : b ∉ as := fun hm => by
  rw [hideAll_none _ hm] at e; cases e
theorem fes_in (ok : cx.Ok) {b : Addr} (hb : b ∈ cx.fes) : ∃ o, cx.h₀.get? b = some o ∧ ∀ vs, o.data ≠ .fields vs := by
  obtain ⟨A₀, hB⟩ := ok.below
  exact (hB.frames.mem hb).2
theorem led_off {ρ : Map} {hid : Hd} {fz led : Led} {m mloc : Str → Option Value} {st : St} {s : Shared} (ok : cx.Ok) (x : RelD cx ρ hid fz led m mloc st s) : ∀ q ∈ led, q.1 ∉ cx.fes := fun q hq hm => by
  obtain ⟨o, ho, _⟩ := fes_in ok hm
  rw [(x.N q hq).2.2] at ho; cases ho
/-- what stands whole stands in the low form, too; the heap may have grown -/
theorem RelD.low {ρ : Map} {hid : Hd} {fz led : Led} {m mloc : Str → Option Value} {st : St} {s : Shared} {h' : Heap} {tk : Nat} (ok : cx.Ok) (x : RelD cx ρ hid fz led m mloc st s) (k : ∀ b o, s.heap.get? b = some o → h'.get? b = some o) (htk : 0 < tk) : XD cx ρ hid fz led m mloc st { s with heap := h', toks := tk } := by
  refine ⟨⟨⟨ns_keeps x.F.ns (k _), fun b o e => k _ _ (x.F.keep b o (of_hideAll _ e)), by rw [hideAll_size]; exact x.F.above⟩, fun q hq => ⟨k _ _ (x.N q hq).1, (x.N q hq).2.1, hide_none (x.N q hq).2.2⟩, x.B.chH, x.gens, x.os, htk⟩, fun b hb o e => ⟨o.slots, k _ _ (x.F.keep b o e)⟩, led_off ok x⟩
theorem Rel.xr {ρ : Map} {hid : Hd} {st : St} {s : Shared} (ok : cx.Ok) (x : Rel cx ρ hid st s) : XR cx ρ hid st s := by
  obtain ⟨fz, led, m, mloc, x⟩ := x
  exact ⟨fz, led, m, mloc, x.low ok (fun _ _ e => e) x.tk⟩
/-- an exception under way in the frame L: just made; noted there; come out of a call -/
def Made (base : Heap) (l : List Env) (e : Addr) (cls : Value) (h : Heap) : Prop := base.StaysIn h ∧ base.get? e = none ∧ h.FunFrames base l ∧ ∃ oe vs a0, h.get? e = some oe ∧ oe.cls = cls ∧ oe.data = .fields vs ∧ vs[1]? = some .none ∧ vs[0]? = some a0
inductive Flt (base : Heap) (l : List Env) (L e : Addr) (cls : Value) (h : Heap) : Prop
  | made : Made base l e cls h → Flt base l L e cls h
  | held (a0 : Value) : Heap.HeldW base l e cls a0 L h → Flt base l L e cls h
  | fly (a0 : Value) : Heap.FlyingW base l e cls a0 h → Flt base l L e cls h
section
variable {M : Model} {A : Around} {E : Value → Shared → Prop} {s : Shared}
theorem note_flt {base : Heap} {env : Env} {outer : List Env} {L e : Addr} {cls : Value} {Q : Unit → Shared → Prop} (hfr : A.frames = some (env :: outer)) (hf : env.frame = some L) (x : Flt base (env :: outer) L e cls s.heap)
    (hQ : ∀ h' a0, Heap.HeldW base (env :: outer) e cls a0 L h' → s.heap.UpToSlots h' → Q () { s with heap := h' }) : wpAny M A (noteFrame (.ref e) env) Q E s := by
  cases x with
  | made y =>
    obtain ⟨y1, y2, y3, oe, vs, a0, he, hc, hd, h1, h0⟩ := y
    subst hc
    unfold noteFrame
    simp only [hf]
    refine wpAny_bind (wpAny_field he hd h1 ?_)
    rw [if_neg (by decide)]
    refine wpAny_entryW hfr y3 hf he y1 y2 hd (Array.getElem?_eq_some_iff.mp h1).1 h0 fun h' hN => ?_
    exact hQ h' a0 ⟨hN.1, y2, hN.2.1, hN.2.2.1⟩ hN.2.2.2
  | held a0 y => exact wpAny_noteFrame_againW hf y.2.2.2 (hQ s.heap a0 y (.refl _))
  | fly a0 y => exact wpAny_looks_onW hfr hf y fun h' k1 k2 => hQ h' a0 k1 k2
theorem leave_flt {base : Heap} {env : Env} {outer : List Env} {L e : Addr} {cls : Value} {Q : Unit → Shared → Prop} (hfr : A.frames = some (env :: outer)) (hf : env.frame = some L) (x : Flt base (env :: outer) L e cls s.heap)
    (hQ : ∀ h' a0, Heap.FlyingW base (env :: outer) e cls a0 h' → s.heap.UpToSlots h' → Q () { s with heap := h' }) : wpAny M A (leaving env (.ref e)) Q E s := by
  unfold leaving
  refine wpAny_bind (note_flt hfr hf x fun h1 a0 k1 k2 => ?_)
  exact wpAny_landsW k1 fun h2 k3 k4 => hQ h2 a0 k3 (k2.trans k4)
end
/-- an exception of the class k is under way -/
structure ExD (cx : Cx) (base : Heap) (ρ : Map) (hid : Hd) (fz led : Led) (m mloc : Str → Option Value) (st : St) (s : Shared) : Prop where
  x : XD cx ρ hid fz led m mloc st s
  b0 : cx.low.h₀.StaysIn base
  b1 : ∀ q ∈ led, base.get? q.1 = some q.2
def EX (cx : Cx) (ρ : Map) (hid : Hd) (st : St) (k : String) (e : Addr) (s : Shared) : Prop := ∃ base fz led m mloc, ExD cx base ρ hid fz led m mloc st s ∧ Flt base (cx.fenv :: cx.outer) cx.L e (.type k) s.heap
def EXo (cx : Cx) (ρ : Map) (hid : Hd) (st : St) (k : String) (e : Addr) (s : Shared) : Prop := ∃ base fz led m mloc a0, ExD cx base ρ hid fz led m mloc st s ∧ Heap.FlyingW base (cx.fenv :: cx.outer) e (.type k) a0 s.heap
theorem EXo.ex {ρ : Map} {hid : Hd} {st : St} {k : String} {e : Addr} {s : Shared} (h : EXo cx ρ hid st k e s) : EX cx ρ hid st k e s := by
  obtain ⟨base, fz, led, m, mloc, a0, h1, h2⟩ := h
  exact ⟨base, fz, led, m, mloc, h1, .fly a0 h2⟩
theorem ExD.go {base : Heap} {ρ : Map} {hid : Hd} {fz led : Led} {m mloc : Str → Option Value} {st : St} {s : Shared} {h' : Heap} (ok : cx.Ok) (h : ExD cx base ρ hid fz led m mloc st s) (k1 : base.StaysIn h') (k2 : s.heap.UpToSlots h') : ExD cx base ρ hid fz led m mloc st { s with heap := h' } := by
  obtain ⟨⟨r, u, d⟩, b0, b1⟩ := h
  refine ⟨⟨⟨⟨k2.ns r.F.ns, fun b o e => k1 b o (b0 b o e), r.F.above⟩, fun q hq => ⟨k1 _ _ (b1 q hq), (r.N q hq).2⟩, r.B, r.gens, r.os, r.tk⟩, fun b hb o e => ?_, d⟩, b0, b1⟩
  obtain ⟨sl, hs⟩ := u b hb o e
  obtain ⟨o', ho', hnf⟩ := fes_in ok hb
  rw [e] at ho'
  cases ho'
  obtain ⟨sl', hs'⟩ := k2 b _ hs hnf
  exact ⟨sl', hs'⟩
/-- an exception is made -/
theorem ex_new {ρ : Map} {hid : Hd} {st : St} {s : Shared} {h' : Heap} {e : Addr} {k : String} {tk : Nat} (ok : cx.Ok) (x : Rel cx ρ hid st s) (n : Heap.NewExcOf s.heap h' e k) (htk : 0 < tk) : EX cx ρ hid st k e { s with heap := h', toks := tk } := by
  obtain ⟨fz, led, m, mloc, x⟩ := x
  obtain ⟨A₀, hB⟩ := ok.below
  have FF := (pushX hB x.F ok.fframe ok.fkind).frames
  have hin : ∀ env ∈ (cx.fenv :: cx.outer), ∀ b, env.frame = some b → b ∈ (cx.fenv :: cx.outer).filterMap (·.frame) := fun env he b hb => List.mem_filterMap.mpr ⟨env, he, hb⟩
  have mem : ∀ b, b ∈ (cx.fenv :: cx.outer).filterMap (·.frame) → b = cx.L ∨ b ∈ cx.fes := fun b hb => by
    rw [List.filterMap_cons, ok.fframe] at hb
    rcases List.mem_cons.mp hb with rfl | hb
    · exact .inl rfl
    · exact .inr hb
  refine ⟨hideAll s.heap ((cx.fenv :: cx.outer).filterMap (·.frame)), fz, led, m, mloc, ⟨x.low ok n.keeps htk, fun b o e => ?_, fun q hq => ?_⟩, .made ⟨fun b o e => n.keeps _ _ (of_hideAll _ e), hide_none n.new, (funFrames_hide FF hin).of_keeps fun b o hb _ => ⟨o, n.keeps b o hb, rfl⟩, ?_⟩⟩
  · have h0 := of_hideAll _ e
    refine hideAll_get _ (x.F.keep _ _ h0) fun hm => ?_
    rcases mem b hm with rfl | hm
    · exact absurd (Nat.lt_of_lt_of_le (Heap.lt_size h0) x.F.above) (Nat.lt_irrefl _)
    · exact hide_not e hm
  · refine hideAll_get _ (x.N q hq).1 fun hm => ?_
    rcases mem _ hm with e | hm
    · exact (x.N q hq).2.1 e
    · exact led_off ok x q hq hm
  · obtain ⟨ob, vs, h1, h2, h3, h4⟩ := n.there
    have hsz := (Array.getElem?_eq_some_iff.mp h4).1
    exact ⟨ob, vs, vs[0]'(by omega), h1, h2, h3, h4, Array.getElem?_eq_getElem _⟩
/-- from an inner frame back to the caller's -/
theorem XD.back (ok : cx.Ok) {k : Nat} {L' : Addr} {env' : Env} {ρ ρ' : Map} {hid : Hd} {fz led fz' led' : Led} {m mloc m' mloc' : Str → Option Value} {st st' : St} {s s' : Shared} (x : RelD cx ρ hid fz led m mloc st s) (hρ : ρ <+: ρ')
    (y : XD (cx.inn (hideAll s.heap (led.map (·.1))) L' env' k).frz ρ' (hidOf ρ fz led) fz' led' m' mloc' st' s') : XD cx ρ' hid fz' led' m mloc ⟨st.loc, st'.sto⟩ s' ∧ cx.low.h₀.StaysIn (cx.inn (hideAll s.heap (led.map (·.1))) L' env' k).low.h₀ := by
  obtain ⟨r, u, d⟩ := y
  have nm : ∀ b o, cx.h₀.get? b = some o → b ∉ led.map (·.1) := fun b o e q => by
    obtain ⟨p, hp, rfl⟩ := List.mem_map.mp q
    rw [(x.N p hp).2.2] at e; cases e
  have feq : (cx.inn (hideAll s.heap (led.map (·.1))) L' env' k).fes = cx.L :: cx.fes := by
    show (cx.fenv :: cx.outer).filterMap (·.frame) = _
    rw [List.filterMap_cons, ok.fframe]
  have low : cx.low.h₀.StaysIn (cx.inn (hideAll s.heap (led.map (·.1))) L' env' k).low.h₀ := fun b o e => by
    have h0 := of_hideAll _ e
    refine hideAll_get _ (hideAll_get _ (x.F.keep _ _ h0) (nm _ _ h0)) fun hm => ?_
    rw [feq] at hm
    rcases List.mem_cons.mp hm with rfl | hm
    · exact absurd (Nat.lt_of_lt_of_le (Heap.lt_size h0) x.F.above) (Nat.lt_irrefl _)
    · exact hide_not e hm
  have nL : cx.L ∉ led.map (·.1) := fun q => by
    obtain ⟨p, hp, e⟩ := List.mem_map.mp q
    exact (x.N p hp).2.1 e
  have B1 : Bear (cx.inn (hideAll s.heap (led.map (·.1))) L' env' k).frz ρ' (hidOf ρ fz led) fz' led' m' mloc' st' := Bear.unH (cx := (cx.inn (hideAll s.heap (led.map (·.1))) L' env' k).frz) r.B
  have B2 : Bear cx ρ' hid fz' led' m mloc ⟨st.loc, st'.sto⟩ := bear_back (cx := cx) (cx' := (cx.inn (hideAll s.heap (led.map (·.1))) L' env' k).frz) rfl rfl rfl rfl rfl x.B hρ B1
  refine ⟨⟨⟨⟨?_, fun b o e => r.F.keep _ _ (low b o e), by rw [hideAll_size]; exact x.F.above⟩, fun q hq => ⟨(r.N q hq).1, fun e => ?_, ?_⟩, B2.chH, r.gens, r.os, r.tk⟩, fun b hb o e => ?_, fun q hq hm => ?_⟩, low⟩
  · obtain ⟨oL, es, ep, hL, hr⟩ := id x.F.ns
    obtain ⟨sl, hs⟩ := u cx.L (by show cx.L ∈ (cx.inn (hideAll s.heap (led.map (·.1))) L' env' k).fes; rw [feq]; exact .head _) oL (hideAll_get _ hL nL)
    exact ns_slots x.F.ns hL hs
  · exact d q hq (by show q.1 ∈ (cx.inn (hideAll s.heap (led.map (·.1))) L' env' k).fes; rw [feq, e]; exact .head _)
  · cases q' : cx.low.h₀.get? q.1 with
    | none => rfl
    | some o =>
      have h1 := low _ _ q'
      have h2 := (r.N q hq).2.2
      rw [show (cx.inn (hideAll s.heap (led.map (·.1))) L' env' k).frz.low.h₀ = (cx.inn (hideAll s.heap (led.map (·.1))) L' env' k).low.h₀ from rfl] at h2
      rw [h1] at h2; cases h2
  · exact u b (by show b ∈ (cx.inn (hideAll s.heap (led.map (·.1))) L' env' k).fes; rw [feq]; exact .tail _ hb) o (hideAll_get _ (x.F.keep _ _ e) (nm _ _ e))
  · exact d q hq (by show q.1 ∈ (cx.inn (hideAll s.heap (led.map (·.1))) L' env' k).fes; rw [feq]; exact .tail _ hm)
end
end Mine
set_option linter.unusedVariables false
namespace Mine
abbrev EP := Cx → Map → Hd → St → String → Addr → Shared → Prop
def XP (P : EP) (cx : Cx) (ρ : Map) (hid : Hd) (st' : St) (k : String) : Value → Shared → Prop := fun v s' => ∃ e ρ', v = .ref e ∧ ρ <+: ρ' ∧ P cx ρ' hid st' k e s'
/-- a step that ends with an exception -/
def SimX (P : EP) {α β : Type} (cx : Cx) (t : Sem α) (m : PM β) : Prop := ∀ ρ hid st s, Rel cx ρ hid st s → ∀ k st', m st = .exc k st' → wpAny cx.M cx.A t (fun _ _ => False) (XP P cx ρ hid st' k) s
theorem wx {α : Type} {P : EP} {cx : Cx} {M : Model} {A : Around} {t : Sem α} {ρ ρ1 : Map} {hid : Hd} {st' : St} {k : String} {s : Shared} {Q : α → Shared → Prop} (p : ρ <+: ρ1) (h : wpAny M A t (fun _ _ => False) (XP P cx ρ1 hid st' k) s) : wpAny M A t Q (XP P cx ρ hid st' k) s :=
  wpAny_mono h (fun _ _ z => z.elim) fun v s' ⟨e, ρ', h1, h2, h3⟩ => ⟨e, ρ', h1, pre_trans p h2, h3⟩
theorem SimX.weak {α β : Type} {cx : Cx} {t : Sem α} {m : PM β} (h : SimX EXo cx t m) : SimX EX cx t m := fun ρ hid st s x k st' e =>
  wpAny_mono (h ρ hid st s x k st' e) (fun _ _ z => z) fun v s' ⟨e, ρ', h1, h2, h3⟩ => ⟨e, ρ', h1, h2, h3.ex⟩
/-- a step that makes no exception -/
def NoX {α : Type} (m : PM α) : Prop := ∀ st k st', m st ≠ .exc k st'
theorem x_nox {α β : Type} {P : EP} {cx : Cx} {t : Sem α} {m : PM β} (h : NoX m) : SimX P cx t m := fun ρ hid st s x k st' e => absurd e (h st k st')
def okOnly {α : Type} (m : PM α) : PM α := fun st => match m st with | .ok a st' => .ok a st' | _ => .fail
theorem nox_ok {α : Type} (m : PM α) : NoX (okOnly m) := fun st k st' h => by
  unfold okOnly at h
  split at h <;> cases h
theorem ok_ok {α : Type} {m : PM α} {st st' : St} {a : α} (h : okOnly m st = .ok a st') : m st = .ok a st' := by
  unfold okOnly at h
  split at h
  · rename_i e; cases h; exact e
  · cases h
theorem sim_ok {α β : Type} {cx : Cx} {t : Sem α} {m : PM β} {R : Map → β → α → Prop} (h : Sim cx t m R) : Sim cx t (okOnly m) R := fun ρ hid st s x b st' e => h ρ hid st s x b st' (ok_ok e)
theorem nox_pure {α : Type} (a : α) : NoX (PM.pure a) := fun st k st' h => by cases h
theorem nox_getL (n : String) : NoX (getL n) := fun st k st' h => by
  unfold getL at h
  split at h <;> cases h
section
variable {cx : Cx} {P : EP}
theorem x_cons {a : Stmt} {r : List Stmt} {m k : PM Fl} (h1 : SimS cx a m) (x1 : SimX P cx (exec a cx.env) m) (x2 : SimX P cx (execs r cx.env) k) : SimX P cx (execs (a :: r) cx.env) (seqF m k) := by
  intro ρ hid st s x kk st' h
  rcases bind_exc h with e | ⟨f, st1, e1, h⟩
  · exact wpAny_execs_cons (wx (pre_refl _) (x1 ρ hid st s x kk st' e))
  · refine wpAny_execs_cons (wp_seq (h1 ρ hid st s x f st1 e1) fun g s1 ρ1 p1 r1 v1 => ?_)
    cases v1 with
    | next => exact wx p1 (x2 ρ1 hid st1 s1 r1 kk st' h)
    | brk => cases h
    | cont => cases h
    | ret hv => cases h
theorem x_one {a : Stmt} {m : PM Fl} (x1 : SimX P cx (exec a cx.env) m) : SimX P cx (execs [a] cx.env) m := by
  intro ρ hid st s x kk st' h
  exact wpAny_execs_cons (wx (pre_refl _) (x1 ρ hid st s x kk st' h))
theorem x_nil : SimX P cx (execs [] cx.env) (PM.pure Fl.next) := x_nox (nox_pure _)
theorem x_If {t : Expr} {a b : List Stmt} {pos : Pos} {m : PM Bool} {ma mb : PM Fl} (h : SimT cx t m) (hm : NoX m) (x1 : SimX P cx (execs a cx.env) ma) (x2 : SimX P cx (execs b cx.env) mb) : SimX P cx (exec (.If t a b pos) cx.env) (iteP m ma mb) := by
  intro ρ hid st s x kk st' e
  rcases bind_exc e with e | ⟨c, st1, e1, e⟩
  · exact absurd e (hm _ _ _)
  · refine wpAny_If (wp_seq (h ρ hid st s x c st1 e1) fun c' s1 ρ1 p1 r1 v1 => ?_)
    cases v1
    cases c with
    | true => exact wx p1 (x1 ρ1 hid st1 s1 r1 kk st' e)
    | false => exact wx p1 (x2 ρ1 hid st1 s1 r1 kk st' e)
theorem x_Return {e : Expr} {pos : Pos} {m : PM V} (h : SimX P cx (eval e cx.env) m) : SimX P cx (exec (.Return (some e) pos) cx.env) (PM.bind m fun v => PM.pure (Fl.ret v)) := by
  intro ρ hid st s x kk st' e
  rcases bind_exc e with e | ⟨c, st1, e1, e⟩
  · exact wpAny_Return_some (wx (pre_refl _) (h ρ hid st s x kk st' e))
  · cases e
theorem chk_nox (src : Src) : NoX (chk src) := fun st k st' h => by
  unfold chk at h
  split at h
  · cases h
  · split at h <;> cases h
end
end Mine
set_option linter.unusedVariables false
namespace Mine
section
variable {cx : Cx}
theorem call_posX {prog : Program} {w : World} {A : Around} {R : Result → Shared → Prop} {s : Shared} {fd : FuncData} {body : List Stmt} {f : Addr} {fo : Obj} {args : Args} {binds : List (Str × Value)} (hpos : 0 < s.toks)
    (hroom : A.depth < recursionLimit) (ho : s.heap.get? f = some fo) (hd : fo.data = .func fd) (hbd : fd.body = .stmts body) (hcl : fd.closure = []) (hgl : fd.globals = mainGlobals) (hbn : fd.builtins = builtinsNs) (hlim : s.heap.NoLimit) (hcd : s.heap.CodeRec fd.code fd.qualname)
    (hbind : BindsTo s fd args binds) (hkind : ∀ n, ∀ x ∈ binds, fd.scope.names.lookup x.1 = some .local ∨ (fd.scope.names.lookup x.1 = some .cell ∧ ((cellsFrom n fd.scope.names []).lookup x.1).isSome = true))
    (hnd : ((cellsFrom 0 fd.scope.names []).map (·.1)).Nodup)
    (h : ∀ h₁ tk cells, 0 < tk → Fr s.heap s.heap.objs.size h₁ (bindL (envOfC fd.qualname fd.scope s.heap.objs.size f fd.code).kindOf binds fun _ => none) → News s.heap s.heap.objs.size h₁ cells →
      CellsAre (bindC (envOfC fd.qualname fd.scope s.heap.objs.size f fd.code).kindOf binds fun _ => none) (cellsFrom (s.heap.objs.size + 1) fd.scope.names []) cells →
      wpAny (model prog w) (A.deeper (envOfC fd.qualname fd.scope s.heap.objs.size f fd.code)) (execs body (envOfC fd.qualname fd.scope s.heap.objs.size f fd.code))
        (fun fl s' => False) (fun e s' => wpAny (model prog w) (A.deeper (envOfC fd.qualname fd.scope s.heap.objs.size f fd.code)) (leaving (envOfC fd.qualname fd.scope s.heap.objs.size f fd.code) e) (fun _ s'' => R (.error e) s'') (fun e' s'' => R (.error e') s'') s') { s with heap := h₁, toks := tk })
    (hco : fd.scope.isCoroutine = false) (hgen : fd.scope.isGenerator = false) (hk : fd.scope.kind = .function) : codeAny (model prog w) A (.call (.ref f) args) R s := by
  obtain ⟨name, qualname, params, bd, scope, globals, closure, defaults, kwdefaults, doc, pyModule, annotations, code, closureTuple, builtins⟩ := fd
  dsimp only at *
  subst hbd hcl hgl hbn
  refine codeAny_call_function hroom ho hd hco hgen rfl hcd (hbind _ _ _ _ ?_)
  refine lf hpos (wpAny_newFunctionEnv_cells hk (hkind _) fun env' he s' x htk => ?_)
  subst he
  refine ⟨hlim.keeps x.toInCall.keep, codeAny_func ?_⟩
  obtain ⟨h₁, tk, rfl, _⟩ := x.done
  obtain ⟨cells, NC, Y⟩ := Cl.news (h₀ := s.heap) (Nat.le_refl _) fun n c hm => ⟨x.cell n c (lookup_of_mem_nodup (cellsFrom_names scope.names 0 (s.heap.objs.size + 1) [] [] rfl ▸ hnd) hm), x.above n c hm⟩
  exact wpAny_mono (h h₁ tk cells htk ⟨x.toInCall.ns, x.toInCall.keep, Nat.le_refl _⟩ NC Y) (fun fl s' hl => hl.elim) fun _ _ y => y
/-- an exception in the tail of a body -/
theorem ExD.frz {base : Heap} {ρ : Map} {hid : Hd} {fz led : Led} {m mloc : Str → Option Value} {st : St} {s : Shared} (h : ExD cx base ρ hid fz led m mloc st s) : ExD cx.frz base ρ hid fz led m mloc st s :=
  ⟨⟨⟨h.x.r.F, h.x.r.N, Bear.frz (cx := cx.low) h.x.r.B, h.x.r.gens, h.x.r.os, h.x.r.tk⟩, h.x.u, h.x.d⟩, h.b0, h.b1⟩
theorem code_userX (ok : cx.Ok) {k : Nat} (hdp : cx.A.depth + 4 * k + 5 < recursionLimit) (hun : cx.A.units + 40 * k + 203 < cLine) {ps : List String} {mb : PM Fl} {name qual : Str} {params : Arguments} {body : List Stmt} {scope : Scope} {dV kV doc pm cdv ct oc : Value} {an od : Option Addr} {osl : Array (Option Value)} {f : Addr}
    (ho : cx.K.lookup f = some ⟨oc, od, .func (fnOf name qual params body scope dV kV doc pm an cdv ct), osl⟩) (hcd : codeIn cx.K cdv qual = true)
    (hb : ∀ Vs : List Value, Vs.length = ps.length → bindArgs (fnOf name qual params body scope dV kV doc pm an cdv ct) ⟨Vs, []⟩ = pure ((ps.map Str.ofString).zip Vs))
    (hkind : ∀ p ∈ ps, scope.names.lookup (Str.ofString p) = some .local ∨ scope.names.lookup (Str.ofString p) = some .cell) (hps : ps.Nodup) (hnd : ((cellsFrom 0 scope.names []).map (·.1)).Nodup)
    (hco : scope.isCoroutine = false) (hgen : scope.isGenerator = false) (hk : scope.kind = .function)
    (hbody : ∀ g L', (cx.inn g L' (envOfC qual scope L' f cdv) k).Ok → SimX EX (cx.inn g L' (envOfC qual scope L' f cdv) k) (execs body (envOfC qual scope L' f cdv)) mb)
    {ρ : Map} {hid : Hd} {st st' : St} {s : Shared} (x : Rel cx ρ hid st s) {vs : List V} {Vs : List Value} (hv : VRs ρ vs Vs) {kk : String} (h : callP ps mb vs st = .exc kk st') {R : Result → Shared → Prop}
    (hR : ∀ ρ' e s', ρ <+: ρ' → EXo cx ρ' hid st' kk e s' → R (.error (.ref e)) s') : codeAny cx.M cx.A (.call (.ref f) ⟨Vs, []⟩) R s := by
  unfold callP at h
  split at h
  · rename_i hlen
    split at h
    · cases h
    · rename_i k1 st1 e1
      cases h
      obtain ⟨fz, led, m, mloc, x⟩ := x
      obtain ⟨A₀, hB⟩ := ok.below
      have hVl : Vs.length = ps.length := by rw [← hv.length]; exact hlen
      obtain ⟨FG, B', stays, lv⟩ := groundX (A := cx.A) (R := R) hB x.F x.N ok.frames ok.fframe ok.fkind
      refine call_posX x.tk (by have := ok.depth; omega) (ok.kin.keeps x.F.keep _ _ ho) rfl rfl rfl rfl rfl (ok.top.nolimit.keeps x.F.keep) (codeRec_of (ok.kin.keeps x.F.keep) hcd) (BindsTo.of_eq (hb Vs hVl)) (fun j y hy => ?_) hnd
        (fun h₁ tk cells htk F1 N1 C' => ?_) hco hgen hk
      · have := (List.of_mem_zip (a := y.1) (b := y.2) hy).1
        obtain ⟨p, hp, e⟩ := List.mem_map.mp this
        rw [← e]
        rcases hkind p hp with q | q
        · exact .inl q
        · exact .inr ⟨q, cellsFrom_some scope.names j [] (.inl q)⟩
      · have hlt : ∀ p ∈ led, p.1 < s.heap.objs.size := fun p hp => Heap.lt_size (x.N p hp).1
        have ok' := inn_ok (qual := qual) (f := f) (cdv := cdv) (L' := s.heap.objs.size) ok hdp hun hk stays B'
        have Br := bear_inn (k := k) (g := hideAll s.heap (led.map (·.1))) x.B hlt hv hps hkind C'
        have F' : Fr (hideAll s.heap (led.map (·.1))) s.heap.objs.size h₁ (bindL (envOfC qual scope s.heap.objs.size f cdv).kindOf ((ps.map Str.ofString).zip Vs) fun _ => none) := ⟨F1.ns, fun b o e => F1.keep b o (of_hideAll _ e), Nat.le_of_eq (hideAll_size _ _)⟩
        have N' : News (hideAll s.heap (led.map (·.1))) s.heap.objs.size h₁ (cells ++ led) := fun p hp => by
          rcases List.mem_append.mp hp with hp | hp
          · refine ⟨(N1 p hp).1, (N1 p hp).2.1, ?_⟩
            cases q : (hideAll s.heap (led.map (·.1))).get? p.1 with
            | none => rfl
            | some o => have := of_hideAll _ q; rw [(N1 p hp).2.2] at this; cases this
          · exact ⟨F1.keep _ _ (x.N p hp).1, Nat.ne_of_lt (hlt p hp), hideAll_none _ (List.mem_map_of_mem hp)⟩
        have R' : Rel (cx.inn (hideAll s.heap (led.map (·.1))) s.heap.objs.size (envOfC qual scope s.heap.objs.size f cdv) k) ρ (hidOf ρ fz led) ⟨fun n => (ps.zip vs).lookup n, st.sto⟩ { s with heap := h₁, toks := tk } := ⟨fz, cells ++ led, _, _, F', N', Br, x.gens, x.os, htk⟩
        refine wpAny_mono (hbody _ s.heap.objs.size ok' ρ _ _ _ R' kk st1 e1) (fun _ _ z => z.elim) fun v s' ⟨e, ρ', hve, hρ, hx⟩ => ?_
        subst hve
        obtain ⟨base, fz', led', m', mloc', hx1, fl⟩ := hx
        refine leave_flt (L := s.heap.objs.size) (outer := cx.fenv :: cx.outer) (by exact ok'.frames) rfl fl fun h' a0 k1 k2 => ?_
        have hx2 := (hx1.go ok' k1.1 k2).frz
        obtain ⟨y1, y2⟩ := XD.back (cx := cx) ok x hρ hx2.x
        obtain ⟨f1, f2, ⟨_, _, f3⟩, f4⟩ := k1
        exact hR ρ' e _ hρ ⟨base, fz', led', m, mloc, a0, ⟨y1, fun b o q => hx2.b0 b o (y2 b o q), hx2.b1⟩, f1, f2, f3, f4⟩
    · cases h
  · cases h
/-- a def that ends with an exception -/
structure FnX (cx : Cx) (k : Nat) (f : Addr) (ps : List String) (mb : PM Fl) : Prop where
  run : cx.Ok → cx.A.depth + 4 * k + 5 < recursionLimit → cx.A.units + 40 * k + 203 < cLine → ∀ {ρ : Map} {hid : Hd} {st st' : St} {s : Shared}, Rel cx ρ hid st s → ∀ {vs : List V} {Vs : List Value}, VRs ρ vs Vs → ∀ {kk : String}, callP ps mb vs st = .exc kk st' →
    ∀ {R : Result → Shared → Prop}, (∀ ρ' e s', ρ <+: ρ' → EXo cx ρ' hid st' kk e s' → R (.error (.ref e)) s') → codeAny cx.M cx.A (.call (.ref f) ⟨Vs, []⟩) R s
theorem fnX_user {k : Nat} {ps : List String} {mb : PM Fl} {name qual : Str} {params : Arguments} {body : List Stmt} {scope : Scope} {dV kV doc pm cdv ct oc : Value} {an od : Option Addr} {osl : Array (Option Value)} {f : Addr}
    (ho : cx.K.lookup f = some ⟨oc, od, .func (fnOf name qual params body scope dV kV doc pm an cdv ct), osl⟩) (hcd : codeIn cx.K cdv qual = true)
    (hb : ∀ Vs : List Value, Vs.length = ps.length → bindArgs (fnOf name qual params body scope dV kV doc pm an cdv ct) ⟨Vs, []⟩ = pure ((ps.map Str.ofString).zip Vs))
    (hkind : ∀ p ∈ ps, scope.names.lookup (Str.ofString p) = some .local ∨ scope.names.lookup (Str.ofString p) = some .cell) (hps : ps.Nodup) (hnd : ((cellsFrom 0 scope.names []).map (·.1)).Nodup)
    (hco : scope.isCoroutine = false) (hgen : scope.isGenerator = false) (hk : scope.kind = .function)
    (hbody : ∀ g L', (cx.inn g L' (envOfC qual scope L' f cdv) k).Ok → SimX EX (cx.inn g L' (envOfC qual scope L' f cdv) k) (execs body (envOfC qual scope L' f cdv)) mb) : FnX cx k f ps mb :=
  ⟨fun ok hd hu _ _ _ _ _ x _ _ hv _ h _ hR => code_userX ok hd hu ho hcd hb hkind hps hnd hco hgen hk hbody x hv h hR⟩
/-- a callee that ends with an exception -/
def PCX (P : EP) (cx : Cx) (u : Value) (f : List V → PM V) : Prop := ∀ ρ hid st s, Rel cx ρ hid st s → ∀ vs Vs, VRs ρ vs Vs → ∀ k st', f vs st = .exc k st' → wpAny cx.M cx.A (call u Vs) (fun _ _ => False) (XP P cx ρ hid st' k) s
theorem callx_with (ok : cx.Ok) {P : EP} {u : Value} {pos : Pos} {es : List Expr} {ma : PM (List V)} {f : List V → PM V} {first : List V} {First : List Value} (ha : SimL cx pos es ma) (hk : KeepOk cx u) (hp : PCX P cx u f) (hplain : (backTo pos (starEach es cx.env)).any (·.1) = false)
    {ρ : Map} {hid : Hd} {st st1 st' : St} {s : Shared} (x : Rel cx ρ hid st s) (hf : VRs ρ first First) {vs : List V} {k : String} (e1 : ma st = .ok vs st1) (e2 : f (first ++ vs) st1 = .exc k st') :
    wpAny cx.M cx.A (callWith pos u First (backTo pos (starEach es cx.env)) []) (fun _ _ => False) (XP P cx ρ hid st' k) s := by
  refine callWith_of (P := cx.K.In) (by rw [hplain]; rfl) hk (evalArgs_of hplain (wp_seq (ha ρ hid st s x vs st1 e1) fun Vs s1 ρ1 p1 r1 v1 => ⟨?_, wx p1 (hp ρ1 hid st1 s1 r1 _ _ (vrs_append (hf.mono p1) v1) k st' e2)⟩))
  obtain ⟨fz, led, m, mloc, r⟩ := r1
  exact ok.kin.keeps r.F.keep
end
end Mine
set_option linter.unusedVariables false
namespace Mine
section
variable {cx : Cx}
/-- a body in which exceptions may have been caught -/
def SimBx (cx : Cx) (ss : List Stmt) (m : PM Fl) : Prop := ∀ ρ hid st s, Rel cx ρ hid st s → ∀ f st', m st = .ok f st' →
  wpAny cx.M cx.A (execs ss cx.env) (fun a s' => ∃ ρ', ρ <+: ρ' ∧ XR cx.frz ρ' hid st' s' ∧ FR ρ' f a) (fun _ _ => False) s
theorem XD.whole {ρ : Map} {hid : Hd} {fz led : Led} {m mloc : Str → Option Value} {st : St} {s : Shared} (ho : cx.outer = []) (x : XD cx ρ hid fz led m mloc st s) : RelD cx ρ hid fz led m mloc st s := by
  have hn : ∀ b, b ∉ cx.fes := fun b hb => by
    have : cx.fes = [] := by show cx.outer.filterMap (·.frame) = []; rw [ho]; rfl
    rw [this] at hb; cases hb
  obtain ⟨r, u, d⟩ := x
  refine ⟨⟨r.F.ns, fun b o e => r.F.keep b o (hideAll_get _ e (hn b)), by have := r.F.above; rw [hideAll_size] at this; exact this⟩, fun q hq => ⟨(r.N q hq).1, (r.N q hq).2.1, ?_⟩, r.B.unH, r.gens, r.os, r.tk⟩
  cases q' : cx.h₀.get? q.1 with
  | none => rfl
  | some o =>
    have h1 := hideAll_get cx.fes q' (hn _)
    have h2 := (r.N q hq).2.2
    rw [show cx.low.h₀ = hideAll cx.h₀ cx.fes from rfl, h1] at h2
    cases h2
theorem code_try (ok : cx.Ok) (hout : cx.outer = []) {k : Nat} (hdp : cx.A.depth + 4 * k + 5 < recursionLimit) (hun : cx.A.units + 40 * k + 203 < cLine) {ps : List String} {mb : PM Fl} {name qual : Str} {params : Arguments} {body : List Stmt} {scope : Scope} {dV kV doc pm cdv ct oc : Value} {an od : Option Addr} {osl : Array (Option Value)} {f : Addr}
    (ho : cx.K.lookup f = some ⟨oc, od, .func (fnOf name qual params body scope dV kV doc pm an cdv ct), osl⟩) (hcd : codeIn cx.K cdv qual = true)
    (hb : ∀ Vs : List Value, Vs.length = ps.length → bindArgs (fnOf name qual params body scope dV kV doc pm an cdv ct) ⟨Vs, []⟩ = pure ((ps.map Str.ofString).zip Vs))
    (hkind : ∀ p ∈ ps, scope.names.lookup (Str.ofString p) = some .local ∨ scope.names.lookup (Str.ofString p) = some .cell) (hps : ps.Nodup) (hnd : ((cellsFrom 0 scope.names []).map (·.1)).Nodup)
    (hco : scope.isCoroutine = false) (hgen : scope.isGenerator = false) (hk : scope.kind = .function)
    (hbody : ∀ g L', (cx.inn g L' (envOfC qual scope L' f cdv) k).Ok → SimBx (cx.inn g L' (envOfC qual scope L' f cdv) k) body mb)
    {ρ : Map} {hid : Hd} {st st' : St} {s : Shared} (x : Rel cx ρ hid st s) {vs : List V} {Vs : List Value} (hv : VRs ρ vs Vs) {v : V} (h : callP ps mb vs st = .ok v st') {R : Result → Shared → Prop}
    (hR : ∀ ρ' W s', ρ <+: ρ' → Rel cx ρ' hid st' s' → VR ρ' v W → R (.ok (.ret W)) s') : codeAny cx.M cx.A (.call (.ref f) ⟨Vs, []⟩) R s := by
  unfold callP at h
  split at h
  · rename_i hlen
    split at h
    · rename_i fl st1 e1
      cases h
      obtain ⟨fz, led, m, mloc, x⟩ := x
      obtain ⟨A₀, hB⟩ := ok.below
      have hVl : Vs.length = ps.length := by rw [← hv.length]; exact hlen
      obtain ⟨FG, B', stays, lv⟩ := groundX (A := cx.A) (R := R) hB x.F x.N ok.frames ok.fframe ok.fkind
      refine call_pos x.tk (by have := ok.depth; omega) (ok.kin.keeps x.F.keep _ _ ho) rfl rfl rfl rfl rfl (ok.top.nolimit.keeps x.F.keep) (codeRec_of (ok.kin.keeps x.F.keep) hcd) (BindsTo.of_eq (hb Vs hVl)) (fun j y hy => ?_) hnd
        (fun h₁ tk cells htk F1 N1 C' => ?_) hco hgen hk
      · have := (List.of_mem_zip (a := y.1) (b := y.2) hy).1
        obtain ⟨p, hp, e⟩ := List.mem_map.mp this
        rw [← e]
        rcases hkind p hp with q | q
        · exact .inl q
        · exact .inr ⟨q, cellsFrom_some scope.names j [] (.inl q)⟩
      · have hlt : ∀ p ∈ led, p.1 < s.heap.objs.size := fun p hp => Heap.lt_size (x.N p hp).1
        have ok' := inn_ok (qual := qual) (f := f) (cdv := cdv) (L' := s.heap.objs.size) ok hdp hun hk stays B'
        have Br := bear_inn (k := k) (g := hideAll s.heap (led.map (·.1))) x.B hlt hv hps hkind C'
        have F' : Fr (hideAll s.heap (led.map (·.1))) s.heap.objs.size h₁ (bindL (envOfC qual scope s.heap.objs.size f cdv).kindOf ((ps.map Str.ofString).zip Vs) fun _ => none) := ⟨F1.ns, fun b o e => F1.keep b o (of_hideAll _ e), Nat.le_of_eq (hideAll_size _ _)⟩
        have N' : News (hideAll s.heap (led.map (·.1))) s.heap.objs.size h₁ (cells ++ led) := fun p hp => by
          rcases List.mem_append.mp hp with hp | hp
          · refine ⟨(N1 p hp).1, (N1 p hp).2.1, ?_⟩
            cases q : (hideAll s.heap (led.map (·.1))).get? p.1 with
            | none => rfl
            | some o => have := of_hideAll _ q; rw [(N1 p hp).2.2] at this; cases this
          · exact ⟨F1.keep _ _ (x.N p hp).1, Nat.ne_of_lt (hlt p hp), hideAll_none _ (List.mem_map_of_mem hp)⟩
        have R' : Rel (cx.inn (hideAll s.heap (led.map (·.1))) s.heap.objs.size (envOfC qual scope s.heap.objs.size f cdv) k) ρ (hidOf ρ fz led) ⟨fun n => (ps.zip vs).lookup n, st.sto⟩ { s with heap := h₁, toks := tk } := ⟨fz, cells ++ led, _, _, F', N', Br, x.gens, x.os, htk⟩
        refine wpAny_mono (hbody _ s.heap.objs.size ok' ρ _ _ _ R' fl st1 e1) (fun fw s' hq => ?_) fun _ _ z => z.elim
        obtain ⟨ρ', hρ, ⟨fz', led', m', mloc', y⟩, hfl⟩ := hq
        refine hR ρ' _ s' hρ ⟨fz', led', m, mloc, (XD.back (cx := cx) ok x hρ y).1.whole hout⟩ ?_
        cases hfl with
        | ret hv => exact hv
        | _ => exact .none
    · cases h
    · cases h
  · cases h
theorem fn_try (hout : cx.outer = []) {k : Nat} {ps : List String} {mb : PM Fl} {name qual : Str} {params : Arguments} {body : List Stmt} {scope : Scope} {dV kV doc pm cdv ct oc : Value} {an od : Option Addr} {osl : Array (Option Value)} {f : Addr}
    (ho : cx.K.lookup f = some ⟨oc, od, .func (fnOf name qual params body scope dV kV doc pm an cdv ct), osl⟩) (hcd : codeIn cx.K cdv qual = true)
    (hb : ∀ Vs : List Value, Vs.length = ps.length → bindArgs (fnOf name qual params body scope dV kV doc pm an cdv ct) ⟨Vs, []⟩ = pure ((ps.map Str.ofString).zip Vs))
    (hkind : ∀ p ∈ ps, scope.names.lookup (Str.ofString p) = some .local ∨ scope.names.lookup (Str.ofString p) = some .cell) (hps : ps.Nodup) (hnd : ((cellsFrom 0 scope.names []).map (·.1)).Nodup)
    (hco : scope.isCoroutine = false) (hgen : scope.isGenerator = false) (hk : scope.kind = .function)
    (hbody : ∀ A' g L', ((cx.at A').inn g L' (envOfC qual scope L' f cdv) k).Ok → SimBx ((cx.at A').inn g L' (envOfC qual scope L' f cdv) k) body mb) : Fn cx k f ps mb :=
  ⟨fun A' ok hd hu _ _ _ _ _ x _ _ hv _ h _ hR => code_try (cx := cx.at A') ok hout hd hu ho hcd hb hkind hps hnd hco hgen hk (hbody A') x.chA hv h fun ρ' W s' a b c => hR ρ' W s' a b.unA c⟩
/-- names in the low form -/
theorem XD.ns {ρ : Map} {hid : Hd} {fz led : Led} {m mloc : Str → Option Value} {st : St} {s : Shared} (x : XD cx ρ hid fz led m mloc st s) {a : Addr} {n : Str → Option Value} (h : cx.h₀.Ns a n) : s.heap.Ns a n := by
  obtain ⟨o, es, ep, ho, hr⟩ := id h
  by_cases hm : a ∈ cx.fes
  · obtain ⟨sl, hs⟩ := x.u a hm o ho
    exact ns_slots h ho hs
  · exact ns_keeps h fun o e => x.r.F.keep _ _ (hideAll_get _ e hm)
theorem XD.name (ok : cx.Ok) {A : Around} {ρ : Map} {hid : Hd} {fz led : Led} {m mloc : Str → Option Value} {st : St} {s : Shared} (r : XD cx ρ hid fz led m mloc st s) {x : Str} {pos : Pos} {u : Value} (hx : cx.env.kindOf x = some .globalImplicit) (e : nsIn cx.K mainGlobals x = some none) (hb : bootBuiltins x = some u) (hn : x ≠ "__name__") (hd : (x == ("__debug__" : Str)) = false) {Q : Value → Shared → Prop} {E : Value → Shared → Prop} (hQ : Q u s) :
    wpAny cx.M A (eval (.Name x pos) cx.env) Q E s :=
  Name_function_global ok.kind hx (loadGlobal_builtin (mg := cx.mg) (mb := cx.mb) (v := u) (by rw [ok.globals]; exact r.ns ok.top.g) (mg_none_of ok.kin ok.top.g e) (by rw [ok.builtins]; exact r.ns ok.top.b) ((ok.top.builtins x hn).trans hb) hQ) hd
/-- an exception under way, its traces put away -/
structure Aw (cx : Cx) (base : Heap) (ρ : Map) (hid : Hd) (fz led : Led) (m mloc : Str → Option Value) (st : St) (X : String) (e : Addr) (a0 : Value) (s : Shared) : Prop where
  x : ExD cx base ρ hid fz led m mloc st s
  f : Heap.FlyingW base (cx.fenv :: cx.outer) e (.type X) a0 s.heap
/-- a suite that gives back a constant -/
def RetC (env : Env) (ss : List Stmt) (v : V) : Prop := ∀ (M : Model) (A : Around) (s : Shared) (Q : Flow → Shared → Prop) (E : Value → Shared → Prop), (∀ W tk, s.toks ≤ tk → (∀ ρ, VR ρ v W) → Q (.ret W) { s with toks := tk }) → wpAny M A (execs ss env) Q E s
theorem ret_none {env : Env} {k : Nat} {pos pos' : Pos} : RetC env [.Return (some (.Constant .none k pos)) pos'] .none := fun M A s Q E h =>
  wpAny_execs_cons (wpAny_Return_some (wpAny_Constant_none (h _ _ (Nat.le_refl _) fun ρ => .none)))
theorem XD.toks {ρ : Map} {hid : Hd} {fz led : Led} {m mloc : Str → Option Value} {st : St} {s : Shared} (x : XD cx ρ hid fz led m mloc st s) {tk : Nat} (h : s.toks ≤ tk) : XD cx ρ hid fz led m mloc st { s with toks := tk } :=
  ⟨⟨x.r.F, x.r.N, x.r.B, x.r.gens, x.r.os, Nat.lt_of_lt_of_le x.r.tk h⟩, x.u, x.d⟩
theorem XD.frz {ρ : Map} {hid : Hd} {fz led : Led} {m mloc : Str → Option Value} {st : St} {s : Shared} (x : XD cx ρ hid fz led m mloc st s) : XD cx.frz ρ hid fz led m mloc st s :=
  ⟨⟨x.r.F, x.r.N, Bear.frz (cx := cx.low) x.r.B, x.r.gens, x.r.os, x.r.tk⟩, x.u, x.d⟩
/-- a clause that fits -/
theorem hand_hit (ok : cx.Ok) {base : Heap} {ρ : Map} {hid : Hd} {fz led : Led} {m mloc : Str → Option Value} {st : St} {X : String} {e : Addr} {a0 : Value} {s : Shared} (a : Aw cx base ρ hid fz led m mloc st X e a0 s) {x : Str} {np pos : Pos} {b₀ : Stmt} {suite : List Stmt} {rest : List ExceptHandler} {v : V}
    (hx : cx.env.kindOf x = some .globalImplicit) (e1 : nsIn cx.K mainGlobals x = some none) (hb : bootBuiltins x = some (.type X)) (hn : x ≠ "__name__") (hd : (x == ("__debug__" : Str)) = false)
    (hexc : isSubtype (.type X) (.type "BaseException") = pure true) (hnt : isSubtype (.type ((Manifest.find? X).elim "type" fun x => x.metatype)) (.type "tuple") = pure false) (hsub : isSubtype (.type X) (.type X) = pure true)
    (hs : RetC cx.env (b₀ :: suite) v) {Q : Flow → Shared → Prop} {E : Value → Shared → Prop}
    (hQ : ∀ f s', XR cx.frz ρ hid st s' → FR ρ (.ret v) f → Q f s') :
    wpAny cx.M cx.A (handleBy (.ref e) cx.env (.ExceptHandler (some (.Name x np)) none (b₀ :: suite) pos :: rest)) Q E s := by
  obtain ⟨ob, hob, hobc⟩ := a.f.there
  refine wpAny_handleBy_builtin (X := X) (T := X) (b := true) hexc hnt hsub (a.x.x.name ok hx e1 hb hn hd ⟨rfl, ⟨ob, hob, hobc⟩, ?_⟩)
  rw [if_pos rfl]
  refine lands_againW a.f fun h6 k1 k2 => ?_
  have hx6 := a.x.go ok k1.1 k2
  exact hs _ _ _ _ _ fun W tk htk hv => hQ _ _ ⟨fz, led, m, mloc, (hx6.x.toks htk).frz⟩ (.ret (hv ρ))
/-- try: a body that ends, or ends with an exception that came out of a call -/
def tryP (m : PM Fl) (hs : List (String × V)) : PM Fl := fun st => match m st with
  | .ok f st' => .ok f st'
  | .exc k st' => (match hs.lookup k with | some v => .ok (.ret v) st' | none => .fail)
  | .fail => .fail
theorem sim_Try (ok : cx.Ok) (hfe : cx.env.frame = some cx.L) (hfe2 : cx.env = cx.fenv) {body : List Stmt} {h₀ : ExceptHandler} {hh : List ExceptHandler} {pos : Pos} {m : PM Fl} {hs : List (String × V)} (hb : SimSs cx body m) (xb : SimX EXo cx (execs body cx.env) m)
    (H : ∀ k v, hs.lookup k = some v → ∀ {base : Heap} {ρ : Map} {hid : Hd} {fz led : Led} {m mloc : Str → Option Value} {st : St} {e : Addr} {a0 : Value} {s : Shared}, Aw cx base ρ hid fz led m mloc st k e a0 s → ∀ {Q : Flow → Shared → Prop} {E : Value → Shared → Prop}, (∀ f s', XR cx.frz ρ hid st s' → FR ρ (.ret v) f → Q f s') →
      wpAny cx.M cx.A (handleBy (.ref e) cx.env (h₀ :: hh)) Q E s) : SimBx cx [.Try body (h₀ :: hh) [] [] pos] (tryP m hs) := by
  intro ρ hid st s x f st' h
  unfold tryP at h
  split at h
  · rename_i f1 st1 e1
    cases h
    refine wpAny_execs_cons (wpAny_Try_except (wp_seq (hb ρ hid st s x f st' e1) fun g s1 ρ1 p1 r1 v1 => ?_))
    have hx := r1.frz.xr (frz_ok ok)
    cases v1 with
    | next => exact wpAny_execs_nil (wpAny_execs_nil ⟨ρ1, p1, hx, .next⟩)
    | brk => exact ⟨ρ1, p1, hx, .brk⟩
    | cont => exact ⟨ρ1, p1, hx, .cont⟩
    | ret hv => exact ⟨ρ1, p1, hx, .ret hv⟩
  · rename_i k st1 e1
    split at h
    · rename_i v hl
      cases h
      refine wpAny_execs_cons (wpAny_Try_except (wpAny_mono (xb ρ hid st s x k st' e1) (fun _ _ z => z.elim) fun w s1 ⟨e, ρ1, hw, p1, hx⟩ => ?_))
      subst hw
      obtain ⟨base, fz, led, mm, mloc, a0, hx1, fl⟩ := hx
      refine wpAny_looks_onW (L := cx.L) (outer := cx.outer) (base := base) (by rw [hfe2]; exact ok.frames) hfe (by rw [hfe2]; exact fl) fun h4 k1 k2 => ?_
      refine wpAny_landsW k1 fun h5 k3 k4 => ?_
      rw [hfe2] at k3
      have hx5 := (hx1.go ok k1.1 k2).go ok k3.1 k4
      refine H k v hl ⟨hx5, k3⟩ fun f s' hx hf => ?_
      cases hf with
      | ret hv => exact ⟨ρ1, p1, hx, .ret hv⟩
    · cases h
  · cases h
end
end Mine
set_option linter.unusedVariables false
namespace Mine
end Mine
set_option linter.unusedVariables false
namespace Mine
set_option maxRecDepth 100000
end Mine
set_option linter.unusedVariables false
namespace Mine
set_option maxRecDepth 100000
section
variable {cx : Cx}
theorem lfE {α : Type} {M : Model} {A : Around} {t : Sem α} {Q : α → Shared → Prop} {E : Value → Shared → Prop} {s : Shared} (x : 0 < s.toks) (h : wpAny M A t Q (fun e s' => 0 < s'.toks → E e s') s) : wpAny M A t Q E s :=
  wpAny_toks x (wpAny_mono h (fun _ _ k _ => k) fun _ _ k => k)
end
end Mine
set_option linter.unusedVariables false
namespace Mine
section
variable {cx : Cx}
end
end Mine
namespace Mine
set_option maxRecDepth 100000
theorem ae_exc : isSubtype (.type "AttributeError") (.type "BaseException") = pure true := by rw [isSubtype_type]; kernel_rfl
theorem ae_nt : isSubtype (.type ((Manifest.find? "AttributeError").elim "type" fun x => x.metatype)) (.type "tuple") = pure false := by
  have e : ((Manifest.find? "AttributeError").elim "type" fun x => x.metatype) = "type" := by kernel_rfl
  rw [e, isSubtype_type]; kernel_rfl
theorem look_ifX {p n : String} {v : V} {r : List (String × V)} : ((p, v) :: r).lookup n = if n = p then some v else r.lookup n := by
  rw [List.lookup_cons]
  by_cases h : n = p
  · simp [h]
  · have : (n == p) = false := by simpa using h
    simp [h, this]
theorem look1 {a k : String} {x v : V} (h : [(a, x)].lookup k = some v) : k = a ∧ v = x := by
  rw [look_ifX] at h
  split at h
  · rename_i e; cases h; exact ⟨e, rfl⟩
  · cases h
end Mine
set_option linter.unusedVariables false
namespace Mine
set_option maxRecDepth 100000
/-- the name of a class as messages show it -/
theorem cut_class {M : Model} {h : Heap} {K : Frag} {x C : Addr} {ox : Obj} {od : Option Obj} {cd : ClassData} (X : K.In h) (I : InstAt h x ox C od) (hcd : clsIn K C = some cd) (hcn : cd.name = Str.ofString "Entry") : Looks M h (typeNameOfCut 100 (.ref x)) (Str.ofString "Entry").toString := by
  unfold typeNameOfCut shownTypeOf
  refine Looks.andThen (a := .ref C) ?_ ?_
  · refine Looks.andThen I.type ?_
    have e : (Value.ref C == Value.type "builtin_function_or_method") = false := rfl
    simp only [e, Bool.false_eq_true, if_false]
    exact .now
  · refine Looks.andThen (looks_clsIn X hcd) ?_
    rw [hcn]
    have e : ((Str.ofString "Entry").cps.foldl (fun k c => k + (Str.utf8Of c).length) 0 ≤ 100) := by decide +kernel
    simp only [e, if_true]
    exact .now
theorem get_missing {prog : Program} {w : World} {A : Around} {E : Value → Shared → Prop} {s : Shared} {K : Frag} {x C : Addr} {ox : Obj} {od : Option Obj} {name : Str} {expr : Bool} {Q : Value → Shared → Prop} {cd : ClassData} (X : K.In s.heap) (I : InstAt s.heap x ox C od)
    (hga : findIn K (.ref C) "__getattribute__" = some (some (.builtin "object.__getattribute__"))) (hf : findObj K C od name = some .missing) (hk : findIn K (.ref C) "__getattr__" = some none) (hcd : clsIn K C = some cd) (hcn : cd.name = Str.ofString "Entry") (hA : A.handled = none)
    (h : ∀ h' tk e, Heap.NewExcOf s.heap h' e "AttributeError" → E (.ref e) { s with heap := h', toks := tk }) (hsz : name.length + 100 ≤ sizeLine) : wpAny (model prog w) A (getAttr (.ref x) name expr) Q E s := by
  refine get_open X I hga ?_
  obtain ⟨hh', gg, d, t, os⟩ := s
  have L0 := I.type (M := model prog w)
  have L1 := looks_find (M := model prog w) X I hf
  have L2 := looks_findIn (M := model prog w) X hk
  have L3 := cut_class (M := model prog w) X I hcd hcn
  refine wpAny_bind (wpAny_pure (wpAny_bind (L0.at (wpAny_bind (L1.at (wpAny_bind (L2.at ?_)))))))
  show wpAny _ _ (typeNameOfCut 100 (.ref x) >>= _) _ _ _
  refine wpAny_bind (L3.at ?_)
  refine wpAny_raiseAttrError (by exact hA) (fun h' tk e hx => ?_) (attrMsg_fits (by decide +kernel) hsz)
  obtain ⟨t', u', he⟩ := hx.there
  have f1 := sub_AttributeError
  show wpAny _ _ (noteAttr (.ref e) (.ref x) (.str name t)) _ _ _
  unfold noteAttr lacksNameAndObj
  repeat (any_goals (first | assumption | wp_step))
  exact h _ _ _ hx.of
def okMiss (K : Frag) (C : Addr) (name : Str) : Bool := plainGet K C name && hasDictIn K C && (findIn K (.ref C) name == some none) && !copiedNames.contains name && ((clsIn K C).any fun cd => cd.name == Str.ofString "Entry") && Nat.ble (name.length + 100) sizeLine &&
  !(["__module__", "__name__", "__qualname__", "__doc__", "__annotations__"] : List Str).contains name
theorem findObj_none {K : Frag} {C : Addr} {od : Obj} {name : Str} (hh : hasDictIn K C = true) (ha : findIn K (.ref C) name = some none) (hc : copiedNames.contains name = false) (hl : lookIn name od = some none) : findObj K C (some od) name = some .missing := by
  obtain ⟨cd, hc', hd⟩ := any_some hh
  unfold findObj
  have ho : W.ownOf cd (some od) name = some none := by unfold W.ownOf; rw [if_pos hd]; exact hl
  rw [hc', Option.bind_some, ha, Option.bind_some]
  simp only [Option.bind_some, ho, hc, Bool.false_and, Bool.false_eq_true, if_false]
/-- an attribute that may be lacking -/
def gAttrX (n : String) : V → PM V
  | .obj i => fun st => match st.sto[i]? with
    | some (.inst as) => (match as.lookup n with
      | none => .exc "AttributeError" st
      | some _ => gAttr n (.obj i) st)
    | some (.tuple _) => .exc "AttributeError" st
    | _ => .fail
  | _ => PM.fail
theorem gAttrX_ok {n : String} {a v : V} {st st' : St} (h : gAttrX n a st = .ok v st') : gAttr n a st = .ok v st' := by
  unfold gAttrX at h
  split at h
  · split at h
    · split at h
      · cases h
      · exact h
    · cases h
    · cases h
  · cases h
theorem gAttr_nox (n : String) (a : V) : NoX (gAttr n a) := fun st k st' h => by
  unfold gAttr at h
  split at h
  · split at h
    · split at h <;> cases h
    · cases h
  · cases h
theorem gAttrX_exc {n : String} {a : V} {k : String} {st st' : St} (h : gAttrX n a st = .exc k st') : ∃ i, a = .obj i ∧ k = "AttributeError" ∧ st' = st ∧ ((∃ as, st.sto[i]? = some (.inst as) ∧ as.lookup n = none) ∨ ∃ vs, st.sto[i]? = some (.tuple vs)) := by
  unfold gAttrX at h
  split at h
  · rename_i i
    split at h
    · rename_i as hi
      split at h
      · rename_i hl
        cases h
        exact ⟨i, rfl, rfl, rfl, .inl ⟨as, hi, hl⟩⟩
      · exact absurd h (gAttr_nox _ _ _ _ _)
    · rename_i vs hi
      cases h
      exact ⟨i, rfl, rfl, rfl, .inr ⟨vs, hi⟩⟩
    · cases h
  · cases h
section
variable {cx : Cx}
theorem sim_AttributeX {e : Expr} {n : String} {pos : Pos} {ma : PM V} (ok : cx.Ok) (h1 : SimV cx (eval e cx.env) ma) (hc : okAttr cx.K cx.C (Str.ofString n) = true)
    (he : eval (.Attribute e (Str.ofString n) pos) cx.env = (do
      let o ← eval e cx.env
      standAt pos.atName
      let r ← holding [o] (getAttr o (Str.ofString n) true)
      letTemporaryGo e o r
      pure r) := by with_unfolding_all rfl) : SimV cx (eval (.Attribute e (Str.ofString n) pos) cx.env) (PM.bind ma (gAttrX n)) := by
  intro ρ hid st s x v st' h
  obtain ⟨a, st1, e1, h⟩ := bind_ok h
  refine Attribute_any_ (wp_seq (h1 ρ hid st s x a st1 e1) fun A s1 ρ1 p1 r1 v1 => ?_) he
  exact get_attr ok hc r1 v1 (gAttrX_ok h) fun W s' hw hr => ⟨ρ1, p1, hr, hw⟩
theorem x_getAttr (ok : cx.Ok) {n : String} (hm : okMiss cx.K cx.C (Str.ofString n) = true) (ht : typeLookup (.type "tuple") (Str.ofString n) = pure none) {ρ : Map} {hid : Hd} {st st' : St} {s : Shared} (x : Rel cx ρ hid st s) {a : V} {A : Value} (v1 : VR ρ a A) {k : String} (h : gAttrX n a st = .exc k st') {Q : Value → Shared → Prop} :
    wpAny cx.M cx.A (getAttr A (Str.ofString n) true) Q (XP EX cx ρ hid st' k) s := by
  obtain ⟨i, rfl, rfl, rfl, h⟩ := gAttrX_exc h
  unfold okMiss at hm
  simp only [Bool.and_eq_true, Bool.not_eq_true', beq_iff_eq] at hm
  obtain ⟨⟨⟨⟨⟨⟨m1, m2⟩, m3⟩, m4⟩, m5⟩, m6⟩, m7⟩ := hm
  have fin : ∀ h' tk e, Heap.NewExcOf s.heap h' e "AttributeError" → 0 < tk → XP EX cx ρ hid st' "AttributeError" (.ref e) { s with heap := h', toks := tk } := fun h' tk e n htk => ⟨e, ρ, rfl, pre_refl ρ, ex_new ok x n htk⟩
  obtain ⟨p, hp', rfl⟩ := vr_obj v1
  obtain ⟨fz, led, m, mloc, r'⟩ := id x
  rcases h with ⟨as, hi, hl⟩ | ⟨vs, hi⟩
  · obtain ⟨Es, n', j1, j2, j3, j4, I⟩ := inst_at r' hi hp'
    obtain ⟨cd, c1, c2⟩ := any_some m5
    refine lfE x.pos (get_missing (ok.kin.keeps r'.F.keep) I (plainGet_of m1).1 (findObj_none m2 m3 m4 ?_) (plainGet_of m1).2 c1 (beq_iff_eq.mp c2) ok.handled (fun h' tk e n htk => fin h' tk e n htk) (Nat.le_of_ble_eq_true m6))
    rw [lookIn_dict]
    unfold PySem.W.getL
    rw [ar_none j1 hl, ar_noref j1]
    rfl
  · obtain ⟨Xs, n', g1, g2⟩ := r'.B.obj i _ p hi hp'
    have hg := (r'.N _ g2).1
    exact lfE x.pos (getAttr_miss_tuple hg rfl rfl rfl ht m7 ok.handled (fun h' tk e n htk => fin h' tk e n htk) (Nat.le_of_ble_eq_true m6))
theorem x_Attribute {e : Expr} {n : String} {pos : Pos} {ma : PM V} (ok : cx.Ok) (h1 : SimV cx (eval e cx.env) ma) (hma : NoX ma) (hm : okMiss cx.K cx.C (Str.ofString n) = true) (ht : typeLookup (.type "tuple") (Str.ofString n) = pure none)
    (he : eval (.Attribute e (Str.ofString n) pos) cx.env = (do
      let o ← eval e cx.env
      standAt pos.atName
      let r ← holding [o] (getAttr o (Str.ofString n) true)
      letTemporaryGo e o r
      pure r) := by with_unfolding_all rfl) : SimX EX cx (eval (.Attribute e (Str.ofString n) pos) cx.env) (PM.bind ma (gAttrX n)) := by
  intro ρ hid st s x k st' h
  rcases bind_exc h with e | ⟨a, st1, e1, h1'⟩
  · exact absurd e (hma _ _ _)
  refine Attribute_any_ (wp_seq (h1 ρ hid st s x a st1 e1) fun A s1 ρ1 p1 r1 v1 => ?_) he
  exact wx p1 (x_getAttr ok hm ht r1 v1 h1')
/-- f-strings -/
theorem nox_fmt (v : V) : NoX (fmtP v) := fun st k st' h => by
  unfold fmtP at h
  split at h
  · split at h <;> cases h
  · split at h <;> cases h
  · cases h
variable {P : EP}
theorem x_Fmt {e : Expr} {pos : Pos} {m : PM V} (h : SimX P cx (eval e cx.env) m) : SimX P cx (eval (.FormattedValue e (-1) none pos) cx.env) (PM.bind m fmtP) := by
  intro ρ hid st s x k st' h0
  rcases bind_exc h0 with e | ⟨a, st1, e1, h1⟩
  · exact FormattedValue_plain (wx (pre_refl _) (h ρ hid st s x k st' e))
  · exact absurd h1 (nox_fmt _ _ _ _)
abbrev SimPsX (P : EP) (cx : Cx) (es : List Expr) (ps : List (PM V)) : Prop := Paired (fun e p => SimX P cx (eval e cx.env) p) es ps
theorem x_parts_nil : SimPsX P cx [] [] := .nil
theorem x_parts_cons {e : Expr} {es : List Expr} {p : PM V} {ps : List (PM V)} (h1 : SimX P cx (eval e cx.env) p) (h2 : SimPsX P cx es ps) : SimPsX P cx (e :: es) (p :: ps) := .cons h1 h2
theorem x_join_parts : ∀ {es : List Expr} {ps : List (PM V)}, SimPs cx es ps → SimPsX P cx es ps → ∀ (out : List Nat), okS out → SimX P cx (joinParts ⟨out.toArray⟩ (evalEach es cx.env)) (joinP out ps)
  | _, _, .nil, .nil, out, ho => x_nox (nox_pure _)
  | _, _, .cons h1 h2, .cons x1 x2, out, ho => by
    intro ρ hid st s x k st' h
    unfold joinP at h
    show wpAny _ _ (joinParts ⟨out.toArray⟩ (eval _ cx.env :: evalEach _ cx.env)) _ _ _
    rcases bind_exc h with e | ⟨a, st1, e1, h3⟩
    · exact PyProof.Rows.joinParts_cons (wx (pre_refl _) (x1 ρ hid st s x k st' e))
    refine PyProof.Rows.joinParts_cons (wp_seq (h1 ρ hid st s x a st1 e1) fun A s1 ρ1 p1 r1 v1 => ?_)
    split at h3
    · rename_i y
      split at h3
      · rename_i hl2
        have hy := vr_ok v1
        obtain ⟨t, rfl⟩ := vr_str v1
        dsimp only
        refine ⟨by rw [str_app, str_len, List.length_append]; exact list_fits hl2, ?_⟩
        rw [str_app]
        exact wx p1 (x_join_parts h2 x2 (out ++ y) (okS_append ho hy) ρ1 hid st1 s1 r1 k st' h3)
      · cases h3
    · cases h3
theorem x_JoinedStr {e1 e2 : Expr} {es : List Expr} {pos : Pos} {p1 p2 : PM V} {ps : List (PM V)} (h : SimPs cx (e1 :: e2 :: es) (p1 :: p2 :: ps)) (hx : SimPsX P cx (e1 :: e2 :: es) (p1 :: p2 :: ps)) : SimX P cx (eval (.JoinedStr (e1 :: e2 :: es) pos) cx.env) (joinP [] (p1 :: p2 :: ps)) := by
  intro ρ hid st s x k st' h0
  exact PyProof.Rows.JoinedStr_many (x_join_parts h hx [] (fun c hc => by cases hc) ρ hid st s x k st' h0)
/-- arguments -/
theorem x_arg1 {pos : Pos} {e : Expr} {m : PM V} (h1 : SimX P cx (eval e cx.env) m) (he : starEach [e] cx.env = (false, eval e cx.env) :: starEach [] cx.env) :
    SimX P cx (spliced (backTo pos (starEach [e] cx.env))) (PM.bind m fun v => PM.bind (PM.pure []) fun vs => PM.pure (v :: vs)) := by
  intro ρ hid st s x k st' h
  rcases bind_exc h with e | ⟨a, st1, e1, h⟩
  · rw [he]
    exact spliced_cons (wx (pre_refl _) (h1 ρ hid st s x k st' e))
  · cases h
/-- a method of a list, called with what may end with an exception -/
theorem nox_isList (v : V) : NoX (isList v) := fun st k st' h => by
  unfold isList at h
  split at h
  · split at h <;> cases h
  · cases h
theorem x_ML (ok : cx.Ok) {o : Expr} {name : Str} {bid : String} {apos pos : Pos} {es : List Expr} {mo : PM V} {ma : PM (List V)} {f : List V → PM V} (slot : Slot "list" name bid) (hty : typeOf (.builtin bid) = pure (.type "method_descriptor"))
    (hf : ∀ vs, NoX (f vs)) (ho : SimV cx (eval o cx.env) mo) (hmo : NoX mo) (xa : SimX P cx (spliced (backTo pos (starEach es cx.env))) ma) (hplain : (backTo pos (starEach es cx.env)).any (·.1) = false) (hb : plainBase o = true) (hl : Nat.ble 30 es.length = false) (hline : (apos.endLine == pos.line) = true) :
    SimX P cx (eval (.Call (.Attribute o name apos) es [] pos) cx.env) (PM.bind mo fun v => PM.bind (isList v) fun _ => PM.bind ma fun vs => f (v :: vs)) := by
  intro ρ hid st s x k st' h
  rcases bind_exc h with e | ⟨a, st1, e1, h1⟩
  · exact absurd e (hmo _ _ _)
  rcases bind_exc h1 with e | ⟨u, st2, e2, h2⟩
  · exact absurd e (nox_isList _ _ _ _)
  rcases bind_exc h2 with e3 | ⟨vs, st3, e3, h3⟩
  · refine MethodCall_ (wp_seq (ho ρ hid st s x a st1 e1) fun A s1 ρ1 p1 r1 v1 => ?_) (meth_form hb hplain hl hline)
    unfold isList at e2
    split at e2
    · rename_i i
      obtain ⟨p, hp', rfl⟩ := vr_obj v1
      split at e2
      · rename_i xs hi
        cases e2
        obtain ⟨fz, led, m, mloc, r'⟩ := id r1
        obtain ⟨Xs, n, g1, g2⟩ := r'.list_at hi hp'
        refine kl_method r'.N g2 slot hty ?_
        exact callWith_of (P := cx.K.In) (by rw [hplain]; rfl) keep_builtin (evalArgs_of hplain (wx p1 (xa ρ1 hid _ s1 r1 k st' e3)))
      · cases e2
    · cases e2
  · exact absurd h3 (hf _ _ _ _)
theorem nox_append (vs : List V) : NoX (cAppend vs) := fun st k st' h => by
  unfold cAppend at h
  split at h
  · split at h
    · split at h <;> cases h
    · cases h
  · cases h
theorem x_Expr {e : Expr} {pos : Pos} {m : PM V} (h : SimX P cx (eval e cx.env) m) (hi : interactive cx.env = false) (hs : swapsWith e none pos.line cx.env = pure false) :
    SimX P cx (exec (.Expr e pos) cx.env) (PM.bind m fun v => match v with | .obj _ => PM.fail | .glob _ => PM.fail | _ => (PM.pure Fl.next : PM Fl)) := by
  intro ρ hid st s x k st' e0
  rw [exec_Expr cx.env _ pos hi hs]
  rcases bind_exc e0 with e | ⟨a, st1, e1, e⟩
  · exact wpAny_bind (wpAny_standAt (wpAny_bind (wx (pre_refl _) (h ρ hid st s x k st' e))))
  · cases a <;> cases e
end
end Mine
set_option linter.unusedVariables false
namespace Mine
section
variable {cx : Cx}
theorem EXo.less {ρ : Map} {hid : Hd} {q : Addr × Obj} {st : St} {k : String} {e : Addr} {s : Shared} (h : EXo cx ρ (hid.cons q) st k e s) : EXo cx ρ hid st k e s := by
  obtain ⟨base, fz, led, m, mloc, a0, ⟨⟨r, u, d⟩, b0, b1⟩, fl⟩ := h
  refine ⟨base, fz, led, m, mloc, a0, ⟨⟨⟨r.F, r.N, ?_, r.gens, r.os, r.tk⟩, u, d⟩, b0, b1⟩, fl⟩
  have B := r.B
  refine ⟨B.nd, B.cm, ?_, B.len, B.own, B.obj, B.sep, fun r hr => B.hin r (.tail _ hr), fun r hr => B.hsep r (.tail _ hr), B.cel, fun y c hc => ⟨fun r hr => (B.csep y c hc).1 r (.tail _ hr), (B.csep y c hc).2⟩, B.fin, B.fz0, fun r hr => B.hfz r (.tail _ hr), B.fsep, B.fcel, B.loc⟩
  rcases B.ln with h | ⟨g1, o, es, ep, g2, g3, g4, g5, g6, g7, g8, g9⟩
  · exact .inl h
  · exact .inr ⟨g1, o, es, ep, g2, g3, g4, g5, g6, fun r hr => g7 r (.tail _ hr), g8, g9⟩
theorem EXo.unA {A' : Around} {ρ : Map} {hid : Hd} {st : St} {k : String} {e : Addr} {s : Shared} (h : EXo (cx.at A') ρ hid st k e s) : EXo cx ρ hid st k e s := by
  obtain ⟨base, fz, led, m, mloc, a0, ⟨⟨r, u, d⟩, b0, b1⟩, fl⟩ := h
  exact ⟨base, fz, led, m, mloc, a0, ⟨⟨⟨r.F, r.N, Bear.chA (cx := (cx.at A').low) (A' := cx.A) (n' := cx.n) r.B, r.gens, r.os, r.tk⟩, u, d⟩, b0, b1⟩, fl⟩
/-- what str() needs to know of a class whose text may fail -/
structure StrX (cx : Cx) (k : Nat) (f : Addr) (mb : PM Fl) : Prop where
  o : StrOf cx k f mb
  fnx : ∀ A', FnX (cx.at A') k f ["self"] mb
  ae : ∀ st kk st', mb st = .exc kk st' → kk = "AttributeError"
theorem callS_ae {mb : PM Fl} (ae : ∀ st kk st', mb st = .exc kk st' → kk = "AttributeError") {j : Nat} {st st' : St} {kk : String} (h : callS mb j st = .exc kk st') : kk = "AttributeError" := by
  unfold callS callP at h
  split at h
  · split at h
    · cases h
    · rename_i e
      cases h
      exact ae _ _ _ e
    · cases h
  · cases h
theorem strP_exc {mb : PM Fl} {a : V} {st st' : St} {kk : String} (h : strP (callS mb) a st = .exc kk st') : ∃ j as, a = .obj j ∧ st.sto[j]? = some (.inst as) ∧ callS mb j st = .exc kk st' := by
  unfold strP at h
  split at h
  · split at h <;> cases h
  · split at h <;> cases h
  · rename_i j
    split at h
    · rename_i as hi
      rcases bind_exc h with e | ⟨w, st1, e1, h1⟩
      · exact ⟨j, as, rfl, hi, e⟩
      · split at h1 <;> cases h1
    · cases h
  · cases h
theorem str_callX (ok : cx.Ok) {k : Nat} {f : Addr} {mb : PM Fl} (S : StrX cx k f mb) {A' : Around} {u : Nat} (hA : Near cx A' u) (hu : u ≤ 20) {ρ : Map} {hid : Hd} {st st' : St} {s : Shared} (x : Rel cx ρ hid st s) {a : V} {A : Value} (ha : VR ρ a A) {kk : String} (h : strP (callS mb) a st = .exc kk st') :
    wpAny cx.M A' (call (.type "str") [A]) (fun _ _ => False) (XP EXo cx ρ hid st' kk) s := by
  obtain ⟨j, as, rfl, hi, e1⟩ := strP_exc h
  obtain ⟨p, hp, rfl⟩ := vr_obj ha
  obtain ⟨fz, led, m, mloc, x'⟩ := id x
  obtain ⟨Es, n', h1, h2, h3, h4, I⟩ := inst_at x' hi hp
  have hA2 := hA.in1.in1
  have hn := S.o.lev
  have hd := ok.depth
  have hun := ok.units
  have hAu := hA2.units
  refine kso_call (K := cx.K) (C := cx.C) (f := f) (by omega) (ok.kin.keeps x'.F.keep) I S.o.find S.o.isf ?_
  exact wpAny_call ((S.fnx A'.in1.in1).run (near_ok ok hA2 (by omega) (by omega)) (by show A'.in1.in1.depth + 4 * k + 5 < recursionLimit; rw [hA2.depth]; omega) (by show A'.in1.in1.units + 40 * k + 203 < cLine; omega) x.chA (.cons ha .nil) e1 fun ρ' e s' p1 r1 => ⟨e, ρ', rfl, p1, r1.unA⟩)
theorem pcx_str (ok : cx.Ok) {k : Nat} {f : Addr} {mb : PM Fl} (S : StrX cx k f mb) : PCX EXo cx (.type "str") (cStr (callS mb)) := by
  intro ρ hid st s x vs Vs hv kk st' h
  unfold cStr at h
  split at h
  · obtain ⟨A, rfl, ha⟩ := vrs_one hv
    exact str_callX ok S Near.refl (by omega) x ha h
  · cases h
theorem ae_stop : isSubtype (.type "AttributeError") (.type "StopIteration") = pure false := by rw [isSubtype_type]; kernel_rfl
theorem ext_loopX (ok : cx.Ok) {k : Nat} {f : Addr} {mb : PM Fl} (S : StrX cx k f mb) {A' : Around} {u : Nat} (hA : Near cx A' u) (hu : u ≤ 10) {i j : Nat} {all : List V} {M T I : Addr} {pi pj : Addr × Addr} {hid : Hd} (hM : ∀ q ∈ hid.h, q.1 ≠ M) (hT : ∀ q ∈ (hid.cons (M, mapO T)).h, q.1 ≠ T) (hI : ∀ q ∈ ((hid.cons (M, mapO T)).cons (T, tupO I)).h, q.1 ≠ I) :
    ∀ (xs : List V) (n : Nat) (o : Obj) (ρ : Map) (st st' : St) (s : Shared) (kk : String), all = all.take n ++ xs → n + xs.length = all.length → o.cls = .type "list_iterator" → o.data = .fields #[.ref pj.1, .int n 0] →
      Rel cx ρ (((hid.cons (M, mapO T)).cons (T, tupO I)).cons (I, o)) st s → ρ[i]? = some pi → ρ[j]? = some pj → mapLoop (callS mb) i (some (j, .list all)) xs st = .exc kk st' →
      ∀ {R : Result → Shared → Prop}, (∀ ρ' e s', ρ <+: ρ' → EXo cx ρ' hid st' kk e s' → R (.error (.ref e)) s') → codeAny cx.M A' (.builtin "list.extend.loop" ⟨[.ref pi.1, .ref M, .none], []⟩) R s
  | [], n, o, ρ, st, st', s, kk, hall, hn, oc, od, x, hpi, hpj, h, R, hR => by
    unfold mapLoop at h
    rcases bind_exc h with e | ⟨_, st1, e1, h1⟩
    · exact absurd e (chk_nox _ _ _ _)
    · cases h1
  | y :: r, n, o, ρ, st, st', s, kk, hall, hn, oc, od, x, hpi, hpj, h, R, hR => by
    unfold mapLoop at h
    rcases bind_exc h with e | ⟨_, st1, e1, h1⟩
    · exact absurd e (chk_nox _ _ _ _)
    obtain ⟨rfl, hs⟩ := chk_ok e1
    have hj := hs _ rfl
    refine codeAny_builtin PySem.F.entry_extend_loop ?_
    rw [Around.under_plainId PySem.F.plain_extend_loop _]
    show wpAny _ A'.in1 (pyNext (.ref M) >>= _) _ _ s
    have gI := hid_get x (q := (I, o)) (.head _)
    have gT := hid_get x (q := (T, tupO I)) (.tail _ (.head _))
    have gM := hid_get x (q := (M, mapO T)) (.tail _ (.tail _ (.head _)))
    obtain ⟨fz, led, m, mloc, x'⟩ := id x
    obtain ⟨Xs, n', g1, g2⟩ := x'.list_at hj hpj
    have hit : s.heap.IsListIter I pj.1 n := ⟨o, gI, oc, od⟩
    have hy : all[n]? = some y := by
      rw [hall, List.getElem?_append_right (by simp; omega)]
      have : n - (all.take n).length = 0 := by simp; simp at hn; omega
      rw [this]; rfl
    obtain ⟨Y, w1, w2⟩ := vrs_get g1 hy
    have hIM : I ≠ M := fun e => hI (M, mapO T) (.tail _ (.head _)) e.symm
    rcases bind_exc h1 with e2 | ⟨w, st2, e2, h2⟩
    · have hae : kk = "AttributeError" := by
        obtain ⟨j', as', _, _, q⟩ := strP_exc e2
        exact callS_ae S.ae q
      refine wpAny_bind (map_next_item (Ex := fun v s1 => ∃ e ρ', v = .ref e ∧ ρ <+: ρ' ∧ EXo cx ρ' hid st' kk e s1) gM gT hit ⟨_, (x'.N _ g2).1, rfl, _, rfl⟩ (by rw [List.getElem?_toArray]; exact w1) hIM (fun h' hit' hs' => ?_) fun v s1 ⟨e, ρ', q1, q2, q3⟩ => ?_)
      · obtain ⟨o', ho', oc', od'⟩ := hit'
        have x2 := x.turn (tk := s.toks) hI (fun b ob hb e => (hs'.2 b hb).trans e) ho'
        exact wpAny_mono (str_callX ok S hA.in1.in1 (by omega) x2 w2 e2) (fun _ _ z => z.elim) fun v s1 ⟨e, ρ', q1, q2, q3⟩ => ⟨e, ρ', q1, q2, q3.less.less.less⟩
      · subst q1
        obtain ⟨base, fz3, led3, m3, mloc3, a0, _, fl⟩ := id q3
        obtain ⟨ob, hob, hobc⟩ := fl.there
        subst hae
        exact ⟨"AttributeError", ⟨ob, hob, hobc⟩, ae_stop, hR ρ' e s1 q2 q3⟩
    rcases bind_exc h2 with e3 | ⟨_, st3, e3, h3⟩
    · exact absurd e3 (nox_append _ _ _ _)
    refine wpAny_bind (map_next_item (Ex := fun _ _ => False) gM gT hit ⟨_, (x'.N _ g2).1, rfl, _, rfl⟩ (by rw [List.getElem?_toArray]; exact w1) hIM (fun h' hit' hs' => ?_) fun _ _ z => z.elim)
    obtain ⟨o', ho', oc', od'⟩ := hit'
    have x2 := x.turn (tk := s.toks) hI (fun b ob hb e => (hs'.2 b hb).trans e) ho'
    refine wpAny_mono (str_call ok S.o hA.in1.in1 (by omega) x2 w2 e2) (fun W s2 hq => ?_) fun _ _ z => z
    obtain ⟨ρ2, p2, r2, v2⟩ := hq
    obtain ⟨zs, q1, q2, rfl, rfl⟩ := append_ok e3
    show wpAny _ A'.in1 (updateSeq pi.1 (·.push W) >>= _) _ _ _
    refine wpAny_bind (upd_list r2 (get_mono p2 hpi) q1 (by omega) (ys := zs ++ [w]) (fun Zs hz => ⟨Zs ++ [W], by simp, vrs_append hz (.cons v2 .nil), by simp⟩) fun h'' r3 => ?_)
    refine wpAny_pure ⟨plainId_quiet PySem.F.plain_extend_loop _, ?_⟩
    refine ext_loopX ok S hA hu hM hT hI r (n + 1) o' ρ2 _ st' _ kk ?_ (by simp at hn ⊢; omega) oc' od' r3 (get_mono p2 hpi) (get_mono p2 hpj) h3 fun ρ' e s' p3 r4 => hR ρ' e s' (pre_trans p2 p3) r4
    have : all.take (n + 1) = all.take n ++ [y] := by rw [List.take_succ, hy]; rfl
    rw [this]
    rw [List.append_assoc]
    exact hall
theorem ext_callX (ok : cx.Ok) {k : Nat} {f : Addr} {mb : PM Fl} (S : StrX cx k f mb) {i j : Nat} {M T I : Addr} {pi pj : Addr × Addr} {hid : Hd} (hM : ∀ q ∈ hid.h, q.1 ≠ M) (hT : ∀ q ∈ (hid.cons (M, mapO T)).h, q.1 ≠ T) (hI : ∀ q ∈ ((hid.cons (M, mapO T)).cons (T, tupO I)).h, q.1 ≠ I)
    {ρ : Map} {st st' : St} {s : Shared} {kk : String} (x : Rel cx ρ (((hid.cons (M, mapO T)).cons (T, tupO I)).cons (I, iterO pj.1)) st s) (hpi : ρ[i]? = some pi) (hpj : ρ[j]? = some pj) (h : extMap (callS mb) (.obj i) (.obj j) st = .exc kk st') :
    wpAny cx.M cx.A (call (.builtin "list.extend") [.ref pi.1, .ref M]) (fun _ _ => False) (XP EXo cx ρ hid st' kk) s := by
  unfold extMap at h
  dsimp only at h
  split at h
  · rename_i xs ys hi hj
    split at h
    · rename_i hl
      have gM := hid_get x (q := (M, mapO T)) (.tail _ (.tail _ (.head _)))
      have hTy : s.TypeIs (.ref M) "map" := ⟨_, gM, rfl⟩
      obtain ⟨fz, led, m, mloc, x'⟩ := id x
      obtain ⟨Xs, n, g1, g2⟩ := x'.list_at hi hpi
      have hLy : s.TypeIs (.ref pi.1) "list" := ⟨_, (x'.N _ g2).1, rfl⟩
      refine wpAny_call (codeAny_call_builtin PySem.F.slot_list_extend.plain PySem.F.entry_list_extend (PySem.F.slot_list_extend.check _ _ _ _ _ _ _ _ hLy (PySem.F.args_list_extend_2 _ _) ?_))
      show wpAny _ cx.A.in1 (Builtin.List.listExtendWith (.ref pi.1) (.ref M) .none) _ _ s
      have hSM : pi.1 ≠ M := Ne.symm (hid_sep x (q := (M, mapO T)) (.tail _ (.tail _ (.head _))) hpi)
      unfold Builtin.List.listExtendWith
      refine wpAny_bind (wpAny_typeOf hTy ?_)
      have h1 : Builtin.List.listSameRef (.ref pi.1) (.ref M) = false := by simp [Builtin.List.listSameRef, hSM]
      have h2 : (Value.type "map" == Value.type "list") = false := by decide
      have h3 : (Value.type "map" == Value.type "tuple") = false := by decide
      simp only [h1, h2, h3, Bool.or_false, Bool.false_eq_true, if_false]
      refine wpAny_bind (pyIter_map gM ?_)
      refine wpAny_bind (wpAny_holding ?_)
      unfold Builtin.List.listLengthHint
      refine wpAny_bind (wpAny_specialOf hTy m_no_len ?_)
      show wpAny _ cx.A.in1 (specialOf (Value.ref M) (Str.ofString "__length_hint__") >>= _) _ _ _
      refine wpAny_bind (wpAny_specialOf hTy m_no_hint ?_)
      refine wpAny_pure ?_
      show wpAny _ cx.A.in1 (rule "list.extend.makes-room" >>= fun _ => Builtin.List.listTouch (.ref pi.1) >>= fun _ =>
        again (.builtin "list.extend.loop" ⟨[.ref pi.1, .ref M, .none], []⟩)) _ _ _
      refine wpAny_bind (wpAny_rule ?_)
      refine wpAny_bind ?_
      show wpAny _ cx.A.in1 (updateSeq pi.1 (·.push .none) >>= fun _ => updateSeq pi.1 (·.pop)) _ _ _
      refine wpAny_bind (upd_list x hpi hi (by omega) (ys := xs ++ [.none]) (fun Zs hz => ⟨Zs ++ [.none], by simp, vrs_append hz (.cons .none .nil), by simp⟩) fun h' r1 => ?_)
      refine upd_list r1 hpi (List.getElem?_set_self (get_lt hi)) (by simp; omega) (ys := xs) (fun Zs hz => ?_) fun h'' r2 => ?_
      · obtain ⟨Ys, W, rfl, g1, g2⟩ := vrs_snoc hz
        exact ⟨Ys, by simp, g1, by simp; omega⟩
      · have r2 : Rel cx ρ (((hid.cons (M, mapO T)).cons (T, tupO I)).cons (I, iterO pj.1)) { st with sto := (st.sto.set i (.list (xs ++ [.none]))).set i (.list xs) } { s with heap := h'' } := r2
        rw [set_none_back hi] at r2
        refine wpAny_pure ⟨plainId_quiet PySem.F.plain_extend_loop _, ?_⟩
        exact ext_loopX ok S Near.refl (by omega) hM hT hI ys 0 (iterO pj.1) ρ st st' _ kk (by simp) (by simp) rfl rfl r2 hpi hpj h fun ρ' e s' p1 r3 => ⟨e, ρ', rfl, p1, r3⟩
    · cases h
  · cases h
set_option maxRecDepth 100000 in
theorem x_ExtMap (ok : cx.Ok) {k : Nat} {f : Addr} {mb : PM Fl} (S : StrX cx k f mb) {o e : Expr} {apos pos mpos np sp : Pos} {mo ml : PM V} (ho : SimV cx (eval o cx.env) mo) (hmo : NoX mo) (hmap : SimV cx (eval (.Name "map" np) cx.env) (PM.pure (.glob (.type "map")))) (hstr : SimV cx (eval (.Name "str" sp) cx.env) (PM.pure (.glob (.type "str"))))
    (hl : SimV cx (eval e cx.env) ml) (hml : NoX ml) (hst : isStarred e = false) (hb : plainBase o = true) (hline : (apos.endLine == pos.line) = true) :
    SimX EXo cx (eval (.Call (.Attribute o "extend" apos) [.Call (.Name "map" np) [.Name "str" sp, e] [] mpos] [] pos) cx.env) (PM.bind mo fun v => PM.bind (isList v) fun _ => PM.bind ml fun l => extMap (callS mb) v l) := by
  intro ρ hid st s x kk st' h
  rcases bind_exc h with e0 | ⟨a, st1, e1, h1⟩
  · exact absurd e0 (hmo _ _ _)
  rcases bind_exc h1 with e0 | ⟨_, st2, e2, h2⟩
  · exact absurd e0 (nox_isList _ _ _ _)
  rcases bind_exc h2 with e0 | ⟨b, st3, e3, h3⟩
  · exact absurd e0 (hml _ _ _)
  clear h h1 h2
  have hplain : (backTo pos (starEach [.Call (.Name "map" np) [.Name "str" sp, e] [] mpos] cx.env)).any (·.1) = false := plain_cons rfl plain_nil
  have hplain2 : (backTo mpos (starEach [.Name "str" sp, e] cx.env)).any (·.1) = false := plain_cons rfl (plain_cons hst plain_nil)
  refine MethodCall_ (wp_seq (ho ρ hid st s x a st1 e1) fun A s1 ρ1 p1 r1 v1 => ?_) (meth_form (cx := cx) hb hplain rfl hline)
  unfold isList at e2
  split at e2
  · rename_i i
    obtain ⟨p, hp', rfl⟩ := vr_obj v1
    split at e2
    · rename_i xs hi
      cases e2
      obtain ⟨fz, led, m, mloc, r'⟩ := id r1
      obtain ⟨Xs, n, g1, g2⟩ := r'.list_at hi hp'
      refine kl_method r'.N g2 PySem.F.slot_list_extend rfl ?_
      refine callWith_of (P := cx.K.In) (by rw [hplain]; rfl) keep_builtin (evalArgs_of hplain ?_)
      rw [star_plain rfl]
      refine spliced_cons ?_
      rw [call_name]
      refine wpAny_bind (wp_seq (hmap ρ1 hid st1 s1 r1 _ _ rfl) fun U s2 ρ2 p2 r2 v2 => ?_)
      cases vr_glob v2
      refine callWith_of (P := cx.K.In) (by rw [hplain2]; rfl) keep_type (evalArgs_of hplain2 ?_)
      rw [star_plain rfl, star_plain hst]
      refine spliced_cons (wp_seq (hstr ρ2 hid st1 s2 r2 _ _ rfl) fun U s3 ρ3 p3 r3 v3 => ?_)
      cases vr_glob v3
      refine spliced_cons (wp_seq (hl ρ3 hid st1 s3 r3 b st3 e3) fun B s4 ρ4 p4 r4 v4 => spliced_nil ?_)
      have kin : ∀ {ρ : Map} {hid : Hd} {st : St} {s : Shared}, Rel cx ρ hid st s → cx.K.In s.heap := fun r => by
        obtain ⟨fz, led, m, mloc, r⟩ := r
        exact ok.kin.keeps r.F.keep
      refine ⟨kin r4, ?_⟩
      have pp := pre_trans p2 (pre_trans p3 p4)
      have hpi := get_mono pp hp'
      have hb2 : ∃ j ys, b = .obj j ∧ st3.sto[j]? = some (.list ys) := by
        cases b <;> try (cases h3; done)
        rename_i j
        unfold extMap at h3
        dsimp only at h3
        split at h3
        · rename_i q1 q2
          exact ⟨j, _, rfl, q2⟩
        · cases h3
      obtain ⟨j, ys, rfl, hj⟩ := hb2
      obtain ⟨pj, hpj, rfl⟩ := vr_obj v4
      obtain ⟨fz4, led4, m4, mloc4, r4'⟩ := id r4
      obtain ⟨Ys, n4, g3, g4⟩ := r4'.list_at hj hpj
      have hit : s4.heap.IsList pj.1 Ys.toArray := ⟨_, (r4'.N _ g4).1, rfl, _, rfl⟩
      refine call_map hit ?_
      obtain ⟨y1, n1⟩ := r4.hide (ob := iterO pj.1) (tk := s4.toks) rfl
      obtain ⟨y2, n2⟩ := y1.hide (ob := tupO s4.heap.objs.size) (tk := s4.toks) rfl
      obtain ⟨y3, n3⟩ := y2.hide (ob := mapO (s4.heap.objs.size + 1)) (tk := s4.toks) rfl
      dsimp only at n2 n3 y2 y3
      rw [Heap.size_push] at n2 y2
      rw [Heap.size_push, Heap.size_push] at n3 y3
      have y4 : Rel cx ρ4 (((hid.cons (s4.heap.objs.size + 2, mapO (s4.heap.objs.size + 1))).cons (s4.heap.objs.size + 1, tupO s4.heap.objs.size)).cons (s4.heap.objs.size, iterO pj.1)) st3
          { s4 with heap := ((s4.heap.push (iterO pj.1)).push (tupO s4.heap.objs.size)).push (mapO (s4.heap.objs.size + 1)) } := by
        refine y3.sub (fun q hq => ?_) rfl
        rcases List.mem_cons.mp hq with rfl | hq
        · exact .tail _ (.tail _ (.head _))
        · rcases List.mem_cons.mp hq with rfl | hq
          · exact .tail _ (.head _)
          · rcases List.mem_cons.mp hq with rfl | hq
            · exact .head _
            · exact .tail _ (.tail _ (.tail _ hq))
      refine spliced_nil ⟨kin y4, ?_⟩
      refine wx (pre_trans p1 pp) (ext_callX ok S ?_ ?_ ?_ y4 hpi hpj h3)
      · intro q hq
        have := n3 q (.tail _ (.tail _ hq))
        rw [Heap.size_push] at this
        exact this
      · intro q hq
        rcases List.mem_cons.mp hq with rfl | hq
        · show s4.heap.objs.size + 2 ≠ s4.heap.objs.size + 1; omega
        · exact n2 q (.tail _ hq)
      · intro q hq
        rcases List.mem_cons.mp hq with rfl | hq
        · show s4.heap.objs.size + 1 ≠ s4.heap.objs.size; omega
        · rcases List.mem_cons.mp hq with rfl | hq
          · show s4.heap.objs.size + 2 ≠ s4.heap.objs.size; omega
          · exact n1 q hq
    · cases e2
  · cases e2
/-- a call by a name that ends with an exception -/
theorem x_Call (ok : cx.Ok) {P : EP} {func : Expr} {es : List Expr} {pos : Pos} {u : Value} {ma : PM (List V)} {f : List V → PM V} (hf : SimV cx (eval func cx.env) (PM.pure (.glob u))) (ha : SimL cx pos es ma) (hma : NoX ma) (hk : KeepOk cx u) (hp : PCX P cx u f)
    (hplain : (backTo pos (starEach es cx.env)).any (·.1) = false) (he : eval (.Call func es [] pos) cx.env = (eval func cx.env >>= fun fv => callWith pos fv [] (backTo pos (starEach es cx.env)) [])) :
    SimX P cx (eval (.Call func es [] pos) cx.env) (PM.bind ma f) := by
  intro ρ hid st s x k st' h
  rcases bind_exc h with e | ⟨vs, st1, e1, h⟩
  · exact absurd e (hma _ _ _)
  rw [he]
  refine wpAny_bind (wp_seq (hf ρ hid st s x (.glob u) st rfl) fun U s1 ρ1 p1 r1 v1 => ?_)
  cases vr_glob v1
  exact wx p1 (callx_with ok ha hk hp hplain r1 (first := []) .nil e1 h)
end
/-- no other exception than one -/
def onlyAE (m : PM Fl) : PM Fl := fun st => match m st with
  | .exc k st' => if k = "AttributeError" then .exc k st' else .fail
  | r => r
theorem onlyAE_ok {m : PM Fl} {st st' : St} {a : Fl} (h : onlyAE m st = .ok a st') : m st = .ok a st' := by
  unfold onlyAE at h
  split at h
  · split at h <;> cases h
  · exact h
theorem onlyAE_exc {m : PM Fl} {st st' : St} {k : String} (h : onlyAE m st = .exc k st') : m st = .exc k st' ∧ k = "AttributeError" := by
  unfold onlyAE at h
  split at h
  · rename_i e
    split at h
    · rename_i hk
      cases h
      exact ⟨e, hk⟩
    · cases h
  · rename_i hn
    exact absurd h (hn _ _)
theorem callP_onlyAE {ps : List String} {m : PM Fl} {vs : List V} {st st' : St} {v : V} (h : callP ps (onlyAE m) vs st = .ok v st') : callP ps m vs st = .ok v st' := by
  unfold callP at h ⊢
  split at h
  · rename_i hl
    rw [if_pos hl]
    split at h
    · rename_i e
      rw [onlyAE_ok e]
      exact h
    · cases h
    · cases h
  · cases h
theorem callP_onlyAE_exc {ps : List String} {m : PM Fl} {vs : List V} {st st' : St} {k : String} (h : callP ps (onlyAE m) vs st = .exc k st') : callP ps m vs st = .exc k st' := by
  unfold callP at h ⊢
  split at h
  · rename_i hl
    rw [if_pos hl]
    split at h
    · cases h
    · rename_i e
      rw [(onlyAE_exc e).1]
      exact h
    · cases h
  · cases h
theorem Fn.ae {cx : Cx} {k : Nat} {f : Addr} {ps : List String} {m : PM Fl} (h : Fn cx k f ps m) : Fn cx k f ps (onlyAE m) :=
  ⟨fun A' ok hd hu _ _ _ _ _ x _ _ hv _ e _ hR => h.run A' ok hd hu x hv (callP_onlyAE e) hR⟩
theorem FnX.ae {cx : Cx} {k : Nat} {f : Addr} {ps : List String} {m : PM Fl} (h : FnX cx k f ps m) : FnX cx k f ps (onlyAE m) :=
  ⟨fun ok hd hu _ _ _ _ _ x _ _ hv _ e _ hR => h.run ok hd hu x hv (callP_onlyAE_exc e) hR⟩
end Mine
namespace Mine
noncomputable def str_04_f1 : PM Fl := (PM.bind (PM.bind (getL "ret") fun v => PM.bind (isList v) fun _ => PM.bind (PM.bind (joinP [] [(PM.pure (.str (cps "User-agent: "))), (PM.bind (getL "agent") fmtP)]) fun v => PM.bind (PM.pure []) fun vs => PM.pure (v :: vs)) fun vs => cAppend (v :: vs)) fun v => match v with | .obj _ => PM.fail | .glob _ => PM.fail | _ => PM.pure .next)
noncomputable def str_04_s2 : PM Fl := (okOnly (PM.bind (PM.bind (getL "self") (gAttr "req_rate")) fun v => PM.bind (setL "rate" v) fun _ => PM.pure .next))
noncomputable def str_04_s3 : PM Fl := (PM.bind (PM.bind (getL "ret") fun v => PM.bind (isList v) fun _ => PM.bind (PM.bind (joinP [] [(PM.pure (.str (cps "Request-rate: "))), (PM.bind (PM.bind (getL "rate") (gAttrX "requests")) fmtP), (PM.pure (.str (cps "/"))), (PM.bind (PM.bind (getL "rate") (gAttrX "seconds")) fmtP)]) fun v => PM.bind (PM.pure []) fun vs => PM.pure (v :: vs)) fun vs => cAppend (v :: vs)) fun v => match v with | .obj _ => PM.fail | .glob _ => PM.fail | _ => (PM.pure Fl.next : PM Fl))
noncomputable def str_04_s4 : PM Fl := (okOnly (iteP (PM.bind (PM.bind (PM.bind (getL "self") (gAttr "useragents")) pTruthy) fun b => PM.pure (!b)) (PM.bind (PM.pure (.str (cps ""))) fun v => PM.pure (.ret v)) (PM.pure .next)))
noncomputable def str_04_s5 : PM Fl := (okOnly (PM.bind (PM.bind (PM.pure []) allocList) fun v => PM.bind (setL "ret" v) fun _ => PM.pure .next))
noncomputable def str_04_s6 : PM Fl := (okOnly (PM.bind (PM.bind (getL "self") (gAttr "useragents")) fun v => PM.bind (iterOf v) fun p => loopF p.1 (fun x => PM.bind ((setL "agent") x) fun _ => str_04_f1) p.2))
noncomputable def str_04_s7 : PM Fl := (okOnly (iteP (PM.bind (PM.bind (getL "self") (gAttr "delay")) fun a => PM.bind (PM.pure .none) fun b => PM.bind (pIsNot a b) pTruthy) (PM.bind (PM.bind (getL "ret") fun v => PM.bind (isList v) fun _ => PM.bind (PM.bind (joinP [] [(PM.pure (.str (cps "Crawl-delay: "))), (PM.bind (PM.bind (getL "self") (gAttr "delay")) fmtP)]) fun v => PM.bind (PM.pure []) fun vs => PM.pure (v :: vs)) fun vs => cAppend (v :: vs)) fun v => match v with | .obj _ => PM.fail | .glob _ => PM.fail | _ => PM.pure .next) (PM.pure .next)))
noncomputable def str_04_s8 : PM Fl := (iteP (okOnly (PM.bind (PM.bind (getL "self") (gAttr "req_rate")) fun a => PM.bind (PM.pure .none) fun b => PM.bind (pIsNot a b) pTruthy)) (seqF str_04_s2 str_04_s3) (PM.pure .next))
noncomputable def str_04_s9 (mb : PM Fl) : PM Fl := (iteP (okOnly (PM.bind (PM.bind (getL "self") (gAttr "rulelines")) pTruthy)) (PM.bind (PM.bind (getL "ret") fun v => PM.bind (isList v) fun _ => PM.bind (okOnly (PM.bind (getL "self") (gAttr "rulelines"))) fun l => extMap (callS mb) v l) fun v => match v with | .obj _ => PM.fail | .glob _ => PM.fail | _ => (PM.pure Fl.next : PM Fl)) (okOnly (PM.bind (PM.bind (getL "ret") fun v => PM.bind (isList v) fun _ => PM.bind (PM.bind (PM.pure (.str (cps "Allow:"))) fun v => PM.bind (PM.pure []) fun vs => PM.pure (v :: vs)) fun vs => cAppend (v :: vs)) fun v => match v with | .obj _ => PM.fail | .glob _ => PM.fail | _ => PM.pure .next)))
noncomputable def str_04_s10 : PM Fl := (okOnly (PM.bind (PM.bind (PM.pure (.str (cps "\n"))) fun v => PM.bind (isStr v) fun _ => PM.bind (PM.bind (getL "ret") fun v => PM.bind (PM.pure []) fun vs => PM.pure (v :: vs)) fun vs => cJoin (v :: vs)) fun v => PM.pure (.ret v)))
noncomputable def strXB (mb : PM Fl) : PM Fl := (seqF str_04_s4 (seqF str_04_s5 (seqF str_04_s6 (seqF str_04_s7 (seqF str_04_s8 (seqF (str_04_s9 mb) str_04_s10))))))
noncomputable def strX : Nat → PM Fl
  | 0 => PM.fail
  | n + 1 => onlyAE (strXB (strX n))
noncomputable def text_04_t1 : PM Fl := (PM.bind (PM.bind (okOnly (PM.bind (getL "one") fun v => PM.bind (PM.pure []) fun vs => PM.pure (v :: vs))) (cStr (callS (strX 2)))) fun v => PM.pure (.ret v))
noncomputable def text04 : PM Fl := (tryP text_04_t1 [("AttributeError", .none)])
noncomputable def rate_04_s1 : PM Fl := (iteP (PM.bind (getL "kind") fun a => PM.bind (PM.pure (.int 0)) fun b => PM.bind (pEq a b) pTruthy) (PM.bind (PM.pure .none) fun v => PM.pure (.ret v)) (PM.pure .next))
noncomputable def rate_04_s2 : PM Fl := (iteP (PM.bind (getL "kind") fun a => PM.bind (PM.pure (.int 4)) fun b => PM.bind (pEq a b) pTruthy) (PM.bind (PM.bind (PM.bind (PM.pure (.int 3)) fun v => PM.bind (PM.bind (PM.pure (.int 5)) fun v => PM.bind (PM.pure []) fun vs => PM.pure (v :: vs)) fun vs => PM.pure (v :: vs)) allocTuple) fun v => PM.pure (.ret v)) (PM.pure .next))
noncomputable def rate_04_s3 : PM Fl := (PM.bind (PM.bind (PM.pure []) (newInst initE ["self"])) fun v => PM.bind (setL "rate" v) fun _ => PM.pure .next)
noncomputable def rate_04_s4 : PM Fl := (iteP (PM.bind (getL "kind") fun a => PM.bind (PM.pure (.int 3)) fun b => PM.bind (pNe a b) pTruthy) (PM.bind (PM.pure (.int 3)) fun v => PM.bind (getL "rate") fun a => PM.bind (sAttr "requests" v a) fun _ => PM.pure .next) (PM.pure .next))
noncomputable def rate_04_s5 : PM Fl := (iteP (PM.bind (getL "kind") fun a => PM.bind (PM.pure (.int 2)) fun b => PM.bind (pNe a b) pTruthy) (PM.bind (PM.pure (.int 5)) fun v => PM.bind (getL "rate") fun a => PM.bind (sAttr "seconds" v a) fun _ => PM.pure .next) (PM.pure .next))
noncomputable def rate_04_s6 : PM Fl := (PM.bind (getL "rate") fun v => PM.pure (.ret v))
noncomputable def rate04 : PM Fl := (seqF rate_04_s1 (seqF rate_04_s2 (seqF rate_04_s3 (seqF rate_04_s4 (seqF rate_04_s5 rate_04_s6)))))
noncomputable def rules_04_s1 : PM Fl := (PM.bind (PM.bind (PM.pure []) (newInst initE ["self"])) fun v => PM.bind (setL "inner" v) fun _ => PM.pure .next)
noncomputable def rules_04_s2 : PM Fl := (PM.bind (PM.bind (PM.bind (PM.pure (.int 1)) fun v => PM.bind (PM.bind (PM.pure (.int 2)) fun v => PM.bind (PM.pure []) fun vs => PM.pure (v :: vs)) fun vs => PM.pure (v :: vs)) allocTuple) fun v => PM.bind (getL "inner") fun a => PM.bind (sAttr "req_rate" v a) fun _ => PM.pure .next)
noncomputable def rules_04_s3 : PM Fl := (iteP (PM.bind (getL "kind") fun a => PM.bind (PM.pure (.int 2)) fun b => PM.bind (pEq a b) pTruthy) (PM.bind (PM.bind (PM.bind (getL "inner") (gAttr "useragents")) fun v => PM.bind (isList v) fun _ => PM.bind (PM.bind (PM.pure (.str (cps "kiwi"))) fun v => PM.bind (PM.pure []) fun vs => PM.pure (v :: vs)) fun vs => cAppend (v :: vs)) fun v => match v with | .obj _ => PM.fail | .glob _ => PM.fail | _ => PM.pure .next) (PM.pure .next))
noncomputable def rules_04_s4 : PM Fl := (PM.bind (PM.bind (getL "rules") fun v => PM.bind (isList v) fun _ => PM.bind (PM.bind (PM.pure (.int 1)) fun v => PM.bind (PM.bind (getL "inner") fun v => PM.bind (PM.pure []) fun vs => PM.pure (v :: vs)) fun vs => PM.pure (v :: vs)) fun vs => cInsert (v :: vs)) fun v => match v with | .obj _ => PM.fail | .glob _ => PM.fail | _ => PM.pure .next)
noncomputable def rules_04_s5 : PM Fl := (iteP (PM.bind (getL "kind") fun a => PM.bind (PM.pure (.int 0)) fun b => PM.bind (pEq a b) pTruthy) (PM.bind (PM.bind (PM.pure []) allocList) fun v => PM.pure (.ret v)) (PM.pure .next))
noncomputable def rules_04_s6 : PM Fl := (PM.bind (PM.bind (PM.bind (PM.pure (.str (cps "Disallow: /"))) fun v => PM.bind (PM.bind (PM.pure (.str (cps "Allow: /x"))) fun v => PM.bind (PM.pure []) fun vs => PM.pure (v :: vs)) fun vs => PM.pure (v :: vs)) allocList) fun v => PM.bind (setL "rules" v) fun _ => PM.pure .next)
noncomputable def rules_04_s7 : PM Fl := (iteP (PM.bind (getL "kind") fun a => PM.bind (PM.pure (.int 1)) fun b => PM.bind (pGt a b) pTruthy) (seqF rules_04_s1 (seqF rules_04_s2 (seqF rules_04_s3 rules_04_s4))) (PM.pure .next))
noncomputable def rules_04_s8 : PM Fl := (PM.bind (getL "rules") fun v => PM.pure (.ret v))
noncomputable def rules04 : PM Fl := (seqF rules_04_s5 (seqF rules_04_s6 (seqF rules_04_s7 rules_04_s8)))
noncomputable def l04s1 : PM Fl := (PM.bind (PM.bind (getL "front") fun a => PM.bind (PM.bind (PM.bind (PM.bind (PM.pure (.str (cps ""))) fun v => PM.bind (PM.bind (PM.pure (.str (cps "Request-rate: 3/5\n"))) fun v => PM.bind (PM.pure []) fun vs => PM.pure (v :: vs)) fun vs => PM.pure (v :: vs)) allocList) fun o => PM.bind (getL "kind") fun i => pItem o i) fun b => pAdd a b) fun v => PM.bind (setL "due" v) fun _ => PM.pure .next)
noncomputable def l04s2 : PM Fl := (PM.bind (getL "due") fun a => PM.bind (PM.bind (PM.bind (PM.bind (PM.pure (.str (cps "Allow:"))) fun v => PM.bind (PM.bind (PM.pure (.str (cps "Disallow: /\nAllow: /x"))) fun v => PM.bind (PM.bind (PM.pure (.str (cps ""))) fun v => PM.bind (PM.bind (PM.pure (.str (cps "Disallow: /\n\nAllow: /x"))) fun v => PM.bind (PM.pure []) fun vs => PM.pure (v :: vs)) fun vs => PM.pure (v :: vs)) fun vs => PM.pure (v :: vs)) fun vs => PM.pure (v :: vs)) allocList) fun o => PM.bind (getL "filled") fun i => pItem o i) fun b => PM.bind (pIAdd a b) fun c => PM.bind (setL "due" c) fun _ => PM.pure .next)
noncomputable def l04s3 : PM Fl := (iteP (PM.bind (PM.bind (PM.bind (getL "one") fun v => PM.bind (PM.pure []) fun vs => PM.pure (v :: vs)) (callP ["one"] text04)) fun a => PM.bind (getL "due") fun b => PM.bind (pNe a b) pTruthy) (PM.bind (PM.pure (.bool false)) fun v => PM.pure (.ret v)) (PM.pure .next))
noncomputable def l04s4 : PM Fl := (iteP (orP (PM.bind (PM.bind (getL "one") (gAttr "useragents")) fun a => PM.bind (getL "agents") fun b => PM.bind (pIsNot a b) pTruthy) (orP (PM.bind (PM.bind (getL "one") (gAttr "rulelines")) fun a => PM.bind (getL "rules") fun b => PM.bind (pIsNot a b) pTruthy) (orP (PM.bind (PM.bind (getL "one") (gAttr "req_rate")) fun a => PM.bind (getL "rate") fun b => PM.bind (pIsNot a b) pTruthy) (PM.pure false)))) (PM.bind (PM.pure (.bool false)) fun v => PM.pure (.ret v)) (PM.pure .next))
noncomputable def l04s5 : PM Fl := (iteP (orP (PM.bind (getL "rules") fun a => PM.bind (getL "before") fun b => PM.bind (pNeX a b) pTruthy) (orP (PM.bind (PM.bind (getL "one") (gAttr "delay")) fun a => PM.bind (iteP (PM.bind (getL "late") pTruthy) (PM.pure (.int 0)) (PM.pure .none)) fun b => PM.bind (pNe a b) pTruthy) (PM.pure false))) (PM.bind (PM.pure (.bool false)) fun v => PM.pure (.ret v)) (PM.pure .next))
noncomputable def l04f6 : PM Fl := (seqF l04s3 (seqF l04s4 l04s5))
noncomputable def l04s7 : PM Fl := (PM.bind (PM.bind (getL "x") fun a => PM.bind (PM.pure (.int 3)) fun b => pMod a b) fun v => PM.bind (setL "named" v) fun _ => PM.pure .next)
noncomputable def l04s8 : PM Fl := (PM.bind (PM.bind (PM.bind (getL "x") fun a => PM.bind (PM.pure (.int 3)) fun b => pDiv a b) fun a => PM.bind (PM.pure (.int 5)) fun b => pMod a b) fun v => PM.bind (setL "kind" v) fun _ => PM.pure .next)
noncomputable def l04s9 : PM Fl := (PM.bind (PM.bind (PM.bind (getL "x") fun a => PM.bind (PM.pure (.int 15)) fun b => pDiv a b) fun a => PM.bind (PM.pure (.int 4)) fun b => pMod a b) fun v => PM.bind (setL "filled" v) fun _ => PM.pure .next)
noncomputable def l04s10 : PM Fl := (PM.bind (PM.bind (PM.bind (PM.bind (getL "x") fun a => PM.bind (PM.pure (.int 60)) fun b => pDiv a b) fun a => PM.bind (PM.pure (.int 2)) fun b => pMod a b) fun a => PM.bind (PM.pure (.int 1)) fun b => pEq a b) fun v => PM.bind (setL "late" v) fun _ => PM.pure .next)
noncomputable def l04s11 : PM Fl := (PM.bind (PM.bind (PM.bind (PM.bind (PM.pure (.str (cps "fig"))) fun v => PM.bind (PM.bind (PM.pure (.str (cps "plum"))) fun v => PM.bind (PM.pure []) fun vs => PM.pure (v :: vs)) fun vs => PM.pure (v :: vs)) allocList) fun o => PM.bind (PM.pure .none) fun l => PM.bind (getL "named") fun u => sliceP o l u) fun v => PM.bind (setL "agents" v) fun _ => PM.pure .next)
noncomputable def l04s12 : PM Fl := (PM.bind (PM.bind (PM.bind (getL "kind") fun v => PM.bind (PM.pure []) fun vs => PM.pure (v :: vs)) (callP ["kind"] rate04)) fun v => PM.bind (setL "rate" v) fun _ => PM.pure .next)
noncomputable def l04s13 : PM Fl := (PM.bind (PM.bind (PM.bind (getL "filled") fun v => PM.bind (PM.pure []) fun vs => PM.pure (v :: vs)) (callP ["kind"] rules04)) fun v => PM.bind (setL "rules" v) fun _ => PM.pure .next)
noncomputable def l04s14 : PM Fl := (PM.bind (PM.bind (PM.pure []) (newInst initE ["self"])) fun v => PM.bind (setL "one" v) fun _ => PM.pure .next)
noncomputable def l04s15 : PM Fl := (PM.bind (getL "agents") fun v => PM.bind (getL "one") fun a => PM.bind (sAttr "useragents" v a) fun _ => PM.pure .next)
noncomputable def l04s16 : PM Fl := (PM.bind (getL "rules") fun v => PM.bind (getL "one") fun a => PM.bind (sAttr "rulelines" v a) fun _ => PM.pure .next)
noncomputable def l04s17 : PM Fl := (PM.bind (getL "rate") fun v => PM.bind (getL "one") fun a => PM.bind (sAttr "req_rate" v a) fun _ => PM.pure .next)
noncomputable def l04s18 : PM Fl := (iteP (PM.bind (getL "late") pTruthy) (PM.bind (PM.pure (.int 0)) fun v => PM.bind (getL "one") fun a => PM.bind (sAttr "delay" v a) fun _ => PM.pure .next) (PM.pure .next))
noncomputable def l04s19 : PM Fl := (PM.bind (PM.bind (PM.bind (getL "rules") fun v => PM.bind (PM.pure []) fun vs => PM.pure (v :: vs)) cList) fun v => PM.bind (setL "before" v) fun _ => PM.pure .next)
noncomputable def l04s20 : PM Fl := (PM.bind (PM.bind (PM.bind (PM.bind (PM.pure (.str (cps ""))) fun v => PM.bind (PM.bind (PM.pure (.str (cps "User-agent: fig\n"))) fun v => PM.bind (PM.bind (PM.pure (.str (cps "User-agent: fig\nUser-agent: plum\n"))) fun v => PM.bind (PM.pure []) fun vs => PM.pure (v :: vs)) fun vs => PM.pure (v :: vs)) fun vs => PM.pure (v :: vs)) allocList) fun o => PM.bind (getL "named") fun i => pItem o i) fun v => PM.bind (setL "front" v) fun _ => PM.pure .next)
noncomputable def l04s21 : PM Fl := (PM.bind (getL "front") fun a => PM.bind (iteP (PM.bind (getL "late") pTruthy) (PM.pure (.str (cps "Crawl-delay: 0\n"))) (PM.pure (.str (cps "")))) fun b => PM.bind (pIAdd a b) fun c => PM.bind (setL "front" c) fun _ => PM.pure .next)
noncomputable def l04s22 : PM Fl := (iteP (PM.bind (getL "named") fun a => PM.bind (PM.pure (.int 0)) fun b => PM.bind (pEq a b) pTruthy) (PM.bind (PM.pure (.str (cps ""))) fun v => PM.bind (setL "due" v) fun _ => PM.pure .next) (iteP (orP (PM.bind (getL "kind") fun a => PM.bind (PM.pure (.int 1)) fun b => PM.bind (pGt a b) pTruthy) (orP (PM.bind (getL "filled") fun a => PM.bind (PM.pure (.int 2)) fun b => PM.bind (pEq a b) pTruthy) (PM.pure false))) (PM.bind (PM.pure .none) fun v => PM.bind (setL "due" v) fun _ => PM.pure .next) (seqF l04s1 l04s2)))
noncomputable def l04s23 : PM Fl := (PM.bind (PM.bind (PM.bind (PM.pure (.int 2)) fun v => PM.bind (PM.pure []) fun vs => PM.pure (v :: vs)) cRange) fun v => PM.bind (iterOf v) fun p => loopF p.1 (fun x => PM.bind ((setL "turn") x) fun _ => l04f6) p.2)
noncomputable def l04s24 : PM Fl := (PM.bind (PM.bind (PM.bind (PM.pure (.int 1)) fun v => PM.bind (PM.pure []) fun vs => PM.pure (v :: vs)) (callP ["kind"] rate04)) fun v => PM.bind (getL "one") fun a => PM.bind (sAttr "req_rate" v a) fun _ => PM.pure .next)
noncomputable def l04s25 : PM Fl := (PM.bind (PM.bind (PM.pure []) allocList) fun v => PM.bind (getL "one") fun a => PM.bind (sAttr "rulelines" v a) fun _ => PM.pure .next)
noncomputable def l04s26 : PM Fl := (iteP (PM.bind (PM.bind (PM.bind (getL "one") fun v => PM.bind (PM.pure []) fun vs => PM.pure (v :: vs)) (callP ["one"] text04)) fun a => PM.bind (iteP (PM.bind (getL "named") fun a => PM.bind (PM.pure (.int 0)) fun b => PM.bind (pEq a b) pTruthy) (PM.pure (.str (cps ""))) (PM.bind (getL "front") fun a => PM.bind (PM.pure (.str (cps "Request-rate: 3/5\nAllow:"))) fun b => pAdd a b)) fun b => PM.bind (pNe a b) pTruthy) (PM.bind (PM.pure (.bool false)) fun v => PM.pure (.ret v)) (PM.pure .next))
noncomputable def l04f27 : PM Fl := (seqF l04s7 (seqF l04s8 (seqF l04s9 (seqF l04s10 (seqF l04s11 (seqF l04s12 (seqF l04s13 (seqF l04s14 (seqF l04s15 (seqF l04s16 (seqF l04s17 (seqF l04s18 (seqF l04s19 (seqF l04s20 (seqF l04s21 (seqF l04s22 (seqF l04s23 (seqF l04s24 (seqF l04s25 l04s26)))))))))))))))))))
noncomputable def l04s28 (a : Addr) (xs : List Int) : PM Fl := (PM.bind (PM.bind (PM.bind (PM.bind (getL "script") fun v => PM.bind (PM.pure []) fun vs => PM.pure (v :: vs)) (cListG a xs)) fun a => PM.bind (PM.bind (PM.bind (PM.pure (.int 1)) fun v => PM.bind (PM.pure []) fun vs => PM.pure (v :: vs)) allocList) fun b => pAdd a b) fun v => PM.bind (iterOf v) fun p => loopF p.1 (fun x => PM.bind ((setL "x") x) fun _ => l04f27) p.2)
noncomputable def l04s29 : PM Fl := (PM.bind (PM.pure (.bool true)) fun v => PM.pure (.ret v))
noncomputable def law04 (a : Addr) (xs : List Int) : PM Fl := (seqF (l04s28 a xs) l04s29)
end Mine
set_option linter.unusedSimpArgs false
set_option linter.unusedVariables false
namespace Mine
section
variable {loc : String → Option V} {sto : List O}
end
end Mine
set_option linter.unusedSimpArgs false
set_option linter.unusedVariables false
namespace Mine
theorem wN_sAttr {loc : String → Option V} {ss r : List O} {as : List (String × V)} {n : String} {v : V} {Q : Unit → St → Prop} : wp (sAttr n v (.obj ss.length)) ⟨loc, ss ++ O.inst as :: r⟩ Q = (as.length ≤ 90 ∧ Q () ⟨loc, ss ++ O.inst (putA n v as) :: r⟩) := by
  have g0 : (ss ++ O.inst as :: r)[ss.length]? = some (.inst as) := get_app_len _ _ _
  by_cases h : as.length ≤ 90
  · rw [wL_sAttr g0 h, set_app_len]; simp [h]
  · simp [wp, sAttr, g0, h]
section
variable {loc : String → Option V} {sto : List O}
theorem wpE_neX {a b : V} {Q : V → St → Prop} : wp (pNeX a b) ⟨loc, sto⟩ Q = (match eqX ⟨loc, sto⟩ a b with | some c => Q (.bool (!c)) ⟨loc, sto⟩ | none => False) := by
  unfold wp pNeX
  cases eqX ⟨loc, sto⟩ a b <;> rfl
theorem eqE_same (st : St) (i : Nat) : eqE st (.obj i) (.obj i) = some true := by simp [eqE]
end
end Mine
set_option linter.unusedSimpArgs false
set_option linter.unusedVariables false
namespace Mine
theorem wp_join0 {out : List Nat} {st : St} {Q : V → St → Prop} : wp (joinP out []) st Q = Q (.str out) st := rfl
theorem wp_join1 {out : List Nat} {p : PM V} {r : List (PM V)} {st : St} {Q : V → St → Prop} : wp (joinP out (p :: r)) st Q = wp p st (fun v st' => match v with | .str y => out.length + y.length ≤ 1000000 ∧ wp (joinP (out ++ y) r) st' Q | _ => False) := by
  conv => lhs; unfold joinP
  rw [wp_bind]
  congr 1
  funext v st'
  cases v with
  | str y =>
    dsimp only
    exact wp_if
  | _ => rfl
theorem wp_fmtS {l : List Nat} {st : St} {Q : V → St → Prop} : wp (fmtP (.str l)) st Q = (l.length ≤ 1000000 ∧ Q (.str l) st) := wp_if
theorem wp_fmtI {i : Int} {st : St} {Q : V → St → Prop} : wp (fmtP (.int i)) st Q = (small i = true ∧ Q (.str (cpsI i)) st) := wp_if
theorem wL_join {loc : String → Option V} {sto : List O} {sep : List Nat} {j : Nat} {ls : List (List Nat)} {Q : V → St → Prop} (h : sto[j]? = some (.list (ls.map V.str))) (hl : (ls.map (·.length)).sum + ls.length ≤ 1000000) (hs : sep.length ≤ 16) : wp (cJoin [.str sep, .obj j]) ⟨loc, sto⟩ Q = Q (.str (joinL sep ls)) ⟨loc, sto⟩ := by
  unfold wp cJoin
  simp only [h, strsOf_map]
  rw [if_pos ⟨hl, hs⟩]
theorem wE_entry {loc : String → Option V} {sto : List O} {Q : V → St → Prop} : wp (newInst initE ["self"] []) ⟨loc, sto⟩ Q = Q (.obj sto.length) ⟨loc, sto ++ [.inst [("useragents", .obj (sto.length + 1)), ("rulelines", .obj (sto.length + 2)), ("delay", .none), ("req_rate", .none)], .list [], .list []]⟩ := by
  have key : wp (newInst initE ["self"] []) ⟨loc, sto⟩ (fun v st => v = .obj sto.length ∧ st = ⟨loc, sto ++ [.inst [("useragents", .obj (sto.length + 1)), ("rulelines", .obj (sto.length + 2)), ("delay", .none), ("req_rate", .none)], .list [], .list []]⟩) := wL_entry ⟨rfl, rfl⟩
  obtain ⟨v, st, e, rfl, rfl⟩ := wp_run key
  unfold wp
  rw [e]
theorem run_wp {m : PM Fl} {st : St} {f : Fl} (w : wp m st (fun g _ => g = f)) : ∃ st', m st = .ok f st' := by
  obtain ⟨g, st', e, rfl⟩ := wp_run w
  exact ⟨st', e⟩
/-- a wp behind a wall: the elaborator does not run it -/
structure WPs (m : PM Fl) (st : St) (Q : Fl → St → Prop) : Prop where
  h : wp m st Q
theorem run_wps {m : PM Fl} {st : St} {f : Fl} (w : WPs m st (fun g _ => g = f)) : ∃ st', m st = .ok f st' := run_wp w.h
def rateV (ss : List O) : Option (Int × Int) → V → Prop
  | none, v => v = .none
  | some r, v => ∃ q bs, v = .obj q ∧ ss[q]? = some (.inst bs) ∧ bs.lookup "requests" = some (.int r.1) ∧ bs.lookup "seconds" = some (.int r.2) ∧ small r.1 = true ∧ small r.2 = true
def delV : Option Int → V
  | none => .none
  | some d => .int d
structure Ent (ss : List O) (i U R : Nat) (ags : List (List Nat)) (dv : Option Int) (rv : Option (Int × Int)) (rs : List V) : Prop where
  at' : ∃ as v, ss[i]? = some (.inst as) ∧ as.lookup "useragents" = some (.obj U) ∧ as.lookup "rulelines" = some (.obj R) ∧ as.lookup "delay" = some (delV dv) ∧ as.lookup "req_rate" = some v ∧ rateV ss rv v
  oU : ss[U]? = some (.list (ags.map V.str))
  oR : ss[R]? = some (.list rs)
  sd : ∀ d, dv = some d → small d = true
def cUA : List Nat := cps "User-agent: "
def cCD : List Nat := cps "Crawl-delay: "
def cRR : List Nat := cps "Request-rate: "
def cAll : List Nat := cps "Allow:"
def lnA (ags : List (List Nat)) : List (List Nat) := ags.map fun g => cUA ++ g
def lnD : Option Int → List (List Nat)
  | none => []
  | some d => [cCD ++ cpsI d]
def lnR : Option (Int × Int) → List (List Nat)
  | none => []
  | some r => [cRR ++ cpsI r.1 ++ [47] ++ cpsI r.2]
def lnW (ws : List (List Nat)) : List (List Nat) := if ws = [] then [cAll] else ws
def linesE (ags : List (List Nat)) (dv : Option Int) (rv : Option (Int × Int)) (ws : List (List Nat)) : List (List Nat) := lnA ags ++ lnD dv ++ lnR rv ++ lnW ws
theorem cps_nl : cps "\n" = [10] := by kernel_rfl
theorem cps_sl : cps "/" = [47] := by kernel_rfl
theorem len_UA : cUA.length = 12 := by kernel_rfl
theorem len_RR : cRR.length = 14 := by kernel_rfl
theorem sum_app (a b : List (List Nat)) : ((a ++ b).map (·.length)).sum = (a.map (·.length)).sum + (b.map (·.length)).sum := by
  rw [List.map_append, List.sum_append]
theorem mem_sum {a : List (List Nat)} {l : List Nat} (h : l ∈ a) : l.length ≤ (a.map (·.length)).sum := by
  induction a with
  | nil => cases h
  | cons x r ih =>
    rw [List.map_cons, List.sum_cons]
    rcases List.mem_cons.mp h with rfl | h
    · omega
    · have := ih h; omega
end Mine
set_option linter.unusedSimpArgs false
set_option linter.unusedVariables false
namespace Mine
/-- what holds at the end, exceptions told apart -/
def wpx {α : Type} (m : PM α) (st : St) (Q : α → St → Prop) (E : String → St → Prop) : Prop := match m st with
  | .ok a st' => Q a st'
  | .exc k st' => E k st'
  | .fail => False
section
variable {α β : Type} {st : St} {E : String → St → Prop}
theorem wpx_bind {m : PM α} {f : α → PM β} {Q : β → St → Prop} : wpx (PM.bind m f) st Q E = wpx m st (fun a st' => wpx (f a) st' Q E) E := by
  unfold wpx PM.bind
  cases m st <;> rfl
theorem wpx_pure {a : α} {Q : α → St → Prop} : wpx (PM.pure a) st Q E = Q a st := rfl
theorem wpx_nox {m : PM α} {Q : α → St → Prop} (h : NoX m) : wpx m st Q E = wp m st Q := by
  unfold wpx wp
  cases e : m st with
  | ok a st' => rfl
  | exc k st' => exact absurd e (h _ _ _)
  | fail => rfl
theorem wpx_ok {m : PM α} {Q : α → St → Prop} : wpx (okOnly m) st Q E = wp m st Q := by
  unfold wpx okOnly wp
  cases m st <;> rfl
theorem wpx_seq {m k : PM Fl} {Q : Fl → St → Prop} : wpx (seqF m k) st Q E = wpx m st (fun f st' => match f with | .next => wpx k st' Q E | .brk => Q .brk st' | .cont => Q .cont st' | .ret v => Q (.ret v) st') E := by
  unfold seqF
  rw [wpx_bind]
  congr 1
  funext f st'
  cases f <;> rfl
theorem wpx_ite {t : PM Bool} {a b : PM α} {Q : α → St → Prop} : wpx (iteP t a b) st Q E = wpx t st (fun c st' => if c = true then wpx a st' Q E else wpx b st' Q E) E := by
  unfold iteP
  rw [wpx_bind]
  congr 1
  funext c st'
  cases c <;> simp
theorem wpx_get {n : String} {Q : V → St → Prop} : wpx (getL n) st Q E = (match st.loc n with | some v => Q v st | none => False) := by
  unfold wpx getL
  cases st.loc n <;> rfl
theorem wpx_call {ps : List String} {mb : PM Fl} {vs : List V} {Q : V → St → Prop} (h : vs.length = ps.length) : wpx (callP ps mb vs) st Q E = wpx mb ⟨fun n => (ps.zip vs).lookup n, st.sto⟩ (fun fl st' => Q (match fl with | .ret v => v | _ => .none) ⟨st.loc, st'.sto⟩) (fun k st' => E k ⟨st.loc, st'.sto⟩) := by
  unfold wpx callP
  rw [if_pos h]
  cases mb ⟨fun n => (ps.zip vs).lookup n, st.sto⟩ <;> rfl
theorem wpx_try {m : PM Fl} {hs : List (String × V)} {Q : Fl → St → Prop} (h : wpx m st Q (fun k st' => match hs.lookup k with | some v => Q (.ret v) st' | none => False)) : wp (tryP m hs) st Q := by
  unfold wp tryP
  unfold wpx at h
  cases e : m st with
  | ok a st' => rw [e] at h; exact h
  | exc k st' =>
    rw [e] at h
    dsimp only at h ⊢
    cases q : hs.lookup k with
    | some v => rw [q] at h; exact h
    | none => rw [q] at h; exact h.elim
  | fail => rw [e] at h; exact h.elim
theorem wpx_only {m : PM Fl} {Q : Fl → St → Prop} : wpx (onlyAE m) st Q E = wpx m st Q (fun k st' => k = "AttributeError" ∧ E k st') := by
  unfold wpx onlyAE
  cases m st with
  | ok a st' => rfl
  | fail => rfl
  | exc k st' =>
    dsimp only
    by_cases h : k = "AttributeError"
    · simp [h]
    · simp [h]
theorem wpx_join0 {out : List Nat} {Q : V → St → Prop} : wpx (joinP out []) st Q E = Q (.str out) st := rfl
theorem wpx_join1 {out : List Nat} {p : PM V} {r : List (PM V)} {Q : V → St → Prop} : wpx (joinP out (p :: r)) st Q E = wpx p st (fun v st' => match v with | .str y => out.length + y.length ≤ 1000000 ∧ wpx (joinP (out ++ y) r) st' Q E | _ => False) E := by
  conv => lhs; unfold joinP
  rw [wpx_bind]
  congr 1
  funext v st'
  cases v with
  | str y =>
    dsimp only
    unfold wpx
    by_cases h : out.length + y.length ≤ 1000000
    · simp [h]
    · simp [h]
  | _ => rfl
theorem wpx_strPS {rec : Nat → PM V} {l : List Nat} {Q : V → St → Prop} : wpx (strP rec (.str l)) st Q E = (l.length ≤ 1000000 ∧ Q (.str l) st) := by
  unfold wpx strP
  by_cases h : l.length ≤ 1000000
  · simp [h]
  · simp [h]
end
theorem wpx_strPO {rec : Nat → PM V} {j : Nat} {as : List (String × V)} {loc : String → Option V} {sto : List O} {Q : V → St → Prop} {E : String → St → Prop} (h : sto[j]? = some (.inst as)) : wpx (strP rec (.obj j)) ⟨loc, sto⟩ Q E = wpx (rec j) ⟨loc, sto⟩ (fun v st' => match v with | .str l => Q (.str l) st' | _ => False) E := by
  have e : strP rec (.obj j) ⟨loc, sto⟩ = PM.bind (rec j) (fun v => match v with | .str l => PM.pure (.str l) | _ => PM.fail) ⟨loc, sto⟩ := by
    unfold strP
    simp only [h]
    all_goals rfl
  have e2 : wpx (strP rec (.obj j)) ⟨loc, sto⟩ Q E = wpx (PM.bind (rec j) (fun v => match v with | .str l => PM.pure (.str l) | _ => PM.fail)) ⟨loc, sto⟩ Q E := by
    unfold wpx; rw [e]
  rw [e2, wpx_bind]
  congr 1
  funext v st'
  cases v <;> rfl
section
variable {loc : String → Option V} {sto : List O} {E : String → St → Prop}
theorem wpx_gOk {n : String} {i : Nat} {as : List (String × V)} {v : V} {Q : V → St → Prop} (h : sto[i]? = some (.inst as)) (hn : as.lookup n = some v) (hg : ∀ u, v ≠ .glob u) : wpx (gAttrX n (.obj i)) ⟨loc, sto⟩ Q E = Q v ⟨loc, sto⟩ := by
  have e := wL_gAttr (loc := loc) (Q := Q) h hn hg
  unfold wp at e
  unfold wpx gAttrX
  simp only [h, hn]
  revert e
  cases q : gAttr n (.obj i) ⟨loc, sto⟩ with
  | ok a st' => exact fun e => e
  | exc k st' => exact absurd q (gAttr_nox _ _ _ _ _)
  | fail => exact fun e => e
theorem wpx_gMiss {n : String} {i : Nat} {as : List (String × V)} {Q : V → St → Prop} (h : sto[i]? = some (.inst as)) (hn : as.lookup n = none) : wpx (gAttrX n (.obj i)) ⟨loc, sto⟩ Q E = E "AttributeError" ⟨loc, sto⟩ := by
  unfold wpx gAttrX
  simp only [h, hn]
theorem wpx_gTup {n : String} {i : Nat} {vs : List V} {Q : V → St → Prop} (h : sto[i]? = some (.tuple vs)) : wpx (gAttrX n (.obj i)) ⟨loc, sto⟩ Q E = E "AttributeError" ⟨loc, sto⟩ := by
  unfold wpx gAttrX
  simp only [h]
end
/-- the text of a value, or no text -/
def TXx (k : Nat) (ss : List O) (v : V) (w : Option (List Nat)) : Prop := ∀ (loc : String → Option V) (ss' : List O) (Q : V → St → Prop) (E : String → St → Prop), ss <+: ss' →
  (∀ ss'', ss' <+: ss'' → match w with | some t => Q (.str t) ⟨loc, ss''⟩ | none => E "AttributeError" ⟨loc, ss''⟩) → wpx (strP (callS (strX k)) v) ⟨loc, ss'⟩ Q E
theorem TXx.pre {k : Nat} {ss ss' : List O} {v : V} {w : Option (List Nat)} (h : TXx k ss v w) (p : ss <+: ss') : TXx k ss' v w := fun loc s2 Q E hp hQ => h loc s2 Q E (p.trans hp) hQ
theorem txx_str {k : Nat} {ss : List O} {l : List Nat} (h : l.length ≤ 1000000) : TXx k ss (.str l) (some l) := fun loc ss' Q E hp hQ => by
  rw [wpx_strPS]; exact ⟨h, hQ ss' (List.prefix_refl _)⟩
def allO : List (Option (List Nat)) → Option (List (List Nat))
  | [] => some []
  | none :: _ => none
  | some w :: r => (allO r).map (w :: ·)
theorem wpx_mapLoop {k : Nat} {loc : String → Option V} {ss ss' : List O} {R : Nat} {all : List V} (hp : ss <+: ss') (hR : ss'[R]? = some (.list all)) {Q : V → St → Prop} {E : String → St → Prop} : ∀ {rs : List V} {ws : List (Option (List Nat))}, Paired (TXx k ss) rs ws → ∀ (ls : List (List Nat)) (more : List O), ls.length + rs.length ≤ 1000000 →
    (∀ more', match allO ws with | some wl => Q .none ⟨loc, ss' ++ O.list ((ls ++ wl).map V.str) :: more'⟩ | none => ∀ ls', E "AttributeError" ⟨loc, ss' ++ O.list ls' :: more'⟩) → wpx (mapLoop (callS (strX k)) ss'.length (some (R, .list all)) rs) ⟨loc, ss' ++ O.list (ls.map V.str) :: more⟩ Q E
  | _, _, .nil, ls, more, hl, hQ => by
    unfold mapLoop
    rw [wpx_bind, wpx_nox (chk_nox _)]
    refine wp_of (chk_some (get_pre (List.prefix_append _ _) hR)) ?_
    rw [wpx_pure]
    have := hQ more
    simp only [allO, List.append_nil] at this
    exact this
  | _, _, .cons (a := x) (b := w) h1 h2, ls, more, hl, hQ => by
    unfold mapLoop
    rw [wpx_bind, wpx_nox (chk_nox _)]
    refine wp_of (chk_some (get_pre (List.prefix_append _ _) hR)) ?_
    rw [wpx_bind]
    refine h1 loc _ _ _ (hp.trans (List.prefix_append _ _)) fun ss2 p2 => ?_
    obtain ⟨t, rfl⟩ := p2
    rw [List.append_assoc, List.cons_append]
    rw [List.length_cons] at hl
    cases w with
    | none =>
      have := hQ (more ++ t)
      simp only [allO] at this
      exact this _
    | some w =>
      dsimp only
      rw [wpx_bind, wpx_nox (nox_append _), wL_append (get_app_len _ _ _) (by simp; omega), set_app_len]
      have e : O.list (ls.map V.str ++ [V.str w]) = O.list ((ls ++ [w]).map V.str) := by simp
      rw [e]
      refine wpx_mapLoop hp hR h2 (ls ++ [w]) (more ++ t) (by simp; omega) fun more' => ?_
      have := hQ more'
      simp only [allO] at this
      revert this
      cases allO _ with
      | none => exact fun h => h
      | some wl => intro h; simpa [List.append_assoc] using h
/-- a rate -/
inductive RS where
  | non
  | whole (a b : Int)
  | bad
def rateX (ss : List O) : RS → V → Prop
  | .non, v => v = .none
  | .whole a b, v => ∃ q bs, v = .obj q ∧ ss[q]? = some (.inst bs) ∧ bs.lookup "requests" = some (.int a) ∧ bs.lookup "seconds" = some (.int b) ∧ small a = true ∧ small b = true
  | .bad, v => ∃ q, v = .obj q ∧ ((∃ vs, ss[q]? = some (.tuple vs)) ∨ ∃ bs, ss[q]? = some (.inst bs) ∧ (bs.lookup "requests" = none ∨ ∃ a, bs.lookup "requests" = some (.int a) ∧ small a = true ∧ (cpsI a).length ≤ 1000 ∧ bs.lookup "seconds" = none))
theorem rateX.pre {ss ss' : List O} {r : RS} {v : V} (h : rateX ss r v) (p : ss <+: ss') : rateX ss' r v := by
  cases r with
  | non => exact h
  | whole a b => obtain ⟨q, bs, b1, b2, b3⟩ := h; exact ⟨q, bs, b1, get_pre p b2, b3⟩
  | bad =>
    obtain ⟨q, b1, ⟨vs, b2⟩ | ⟨bs, b2, b3⟩⟩ := h
    · exact ⟨q, b1, .inl ⟨vs, get_pre p b2⟩⟩
    · exact ⟨q, b1, .inr ⟨bs, get_pre p b2, b3⟩⟩
def rvOf : RS → Option (Int × Int)
  | .whole a b => some (a, b)
  | _ => none
structure EntX (ss : List O) (i U R : Nat) (ags : List (List Nat)) (dv : Option Int) (rx : RS) (rs : List V) : Prop where
  at' : ∃ as v, ss[i]? = some (.inst as) ∧ as.lookup "useragents" = some (.obj U) ∧ as.lookup "rulelines" = some (.obj R) ∧ as.lookup "delay" = some (delV dv) ∧ as.lookup "req_rate" = some v ∧ rateX ss rx v
  oU : ss[U]? = some (.list (ags.map V.str))
  oR : ss[R]? = some (.list rs)
  sd : ∀ d, dv = some d → small d = true
theorem EntX.pre {ss ss' : List O} {i U R : Nat} {ags : List (List Nat)} {dv : Option Int} {rx : RS} {rs : List V} (h : EntX ss i U R ags dv rx rs) (p : ss <+: ss') : EntX ss' i U R ags dv rx rs := by
  obtain ⟨⟨as, v, a1, a2, a3, a4, a5, a6⟩, oU, oR, sd⟩ := h
  exact ⟨⟨as, v, get_pre p a1, a2, a3, a4, a5, a6.pre p⟩, get_pre p oU, get_pre p oR, sd⟩
def outc (ags : List (List Nat)) (dv : Option Int) (rx : RS) (ws : List (Option (List Nat))) : Option (List Nat) :=
  if ags = [] then some [] else match rx with
    | .bad => none
    | _ => (allO ws).map fun wl => joinL [10] (linesE ags dv (rvOf rx) wl)
theorem ss_app (ss' : List O) (r : List O) : ss' <+: ss' ++ r := List.prefix_append _ _
/-- agents and delay -/
theorem x_front {ss' : List O} {i U : Nat} {as : List (String × V)} {ags : List (List Nat)} {dv : Option Int} (a1 : ss'[i]? = some (.inst as)) (a2 : as.lookup "useragents" = some (.obj U)) (a4 : as.lookup "delay" = some (delV dv)) (oU : ss'[U]? = some (.list (ags.map V.str))) (sd : ∀ d, dv = some d → small d = true)
    (hb : ((lnA ags ++ lnD dv).map (·.length)).sum + (lnA ags ++ lnD dv).length ≤ 1000000) (hag : ags ≠ []) {K : PM Fl} {sl : String → Option V} (hs : sl "self" = some (.obj i)) {Q : Fl → St → Prop} {E : String → St → Prop}
    (hK : ∀ sl3, sl3 "self" = some (.obj i) → sl3 "ret" = some (.obj ss'.length) → wpx K ⟨sl3, ss' ++ [O.list ((lnA ags ++ lnD dv).map V.str)]⟩ Q E) : wpx (seqF str_04_s4 (seqF str_04_s5 (seqF str_04_s6 (seqF str_04_s7 K)))) ⟨sl, ss'⟩ Q E := by
  have hb' := hb
  rw [sum_app, List.length_append] at hb'
  have hal : (lnA ags).length = ags.length := by simp [lnA]
  rw [wpx_seq]
  unfold str_04_s4
  rw [wpx_ok]
  simp only [wp_bind, wp_pure, wp_seq', wp_ite, wp_and, wp_or, wp_setL, wp_allocList, wp_allocTuple, wp_alloc, wpE_get, wpE_mod, wpE_div, wpE_pow, wpE_iaddS, wpE_iaddI, wpE_addS, wp_add, wp_sub, wp_neg, wpE_lt, wpE_le, wpE_gt, wpE_ge, wpE_eq, wpE_ne, wpE_is, wpE_isnot, isP_bool, isP_obj, eqP_int, eqP_str, wpE_in, wpE_notin, wp_truthyB, wpE_truthyI, wpE_truthyN, wpE_truthyS, wp_isStr, wpE_lenS, wpE_lenG, wpE_range1, wpE_range2, wpE_iterS, wpE_iterG, wpE_max2, wpE_min2, if_true, if_false, String.reduceEq, reduceIte, true_and, and_true, List.length_nil, List.length_cons, List.nil_append, List.cons_append, Bool.false_eq_true, decide_eq_true_eq, Nat.zero_le, Int.reduceLT, Int.reduceLE, Int.reduceNeg, Nat.reduceLeDiff, Nat.reduceAdd, hs, wL_gAttr (n := "useragents") (v := .obj U) a1 a2 (by intro u e; cases e), wL_truthy oU, cps_e]
  refine ⟨by simp; omega, ?_⟩
  have hne : (ags.map V.str).isEmpty = false := by cases ags with | nil => exact absurd rfl hag | cons _ _ => rfl
  simp only [hne, Bool.not_false, Bool.not_true, Bool.false_eq_true, if_false]
  rw [wpx_seq]
  unfold str_04_s5
  rw [wpx_ok]
  have g1 := get_pre (ss_app ss' [O.list []]) a1
  have gU := get_pre (ss_app ss' [O.list []]) oU
  simp only [wp_bind, wp_pure, wp_seq', wp_ite, wp_and, wp_or, wp_setL, wp_allocList, wp_allocTuple, wp_alloc, wpE_get, wpE_mod, wpE_div, wpE_pow, wpE_iaddS, wpE_iaddI, wpE_addS, wp_add, wp_sub, wp_neg, wpE_lt, wpE_le, wpE_gt, wpE_ge, wpE_eq, wpE_ne, wpE_is, wpE_isnot, isP_bool, isP_obj, eqP_int, eqP_str, wpE_in, wpE_notin, wp_truthyB, wpE_truthyI, wpE_truthyN, wpE_truthyS, wp_isStr, wpE_lenS, wpE_lenG, wpE_range1, wpE_range2, wpE_iterS, wpE_iterG, wpE_max2, wpE_min2, if_true, if_false, String.reduceEq, reduceIte, true_and, and_true, List.length_nil, List.length_cons, List.nil_append, List.cons_append, Bool.false_eq_true, decide_eq_true_eq, Nat.zero_le, Int.reduceLT, Int.reduceLE, Int.reduceNeg, Nat.reduceLeDiff, Nat.reduceAdd]
  rw [wpx_seq]
  unfold str_04_s6
  rw [wpx_ok]
  simp only [wp_bind, wp_pure, wp_seq', wp_ite, wp_and, wp_or, wp_setL, wp_allocList, wp_allocTuple, wp_alloc, wpE_get, wpE_mod, wpE_div, wpE_pow, wpE_iaddS, wpE_iaddI, wpE_addS, wp_add, wp_sub, wp_neg, wpE_lt, wpE_le, wpE_gt, wpE_ge, wpE_eq, wpE_ne, wpE_is, wpE_isnot, isP_bool, isP_obj, eqP_int, eqP_str, wpE_in, wpE_notin, wp_truthyB, wpE_truthyI, wpE_truthyN, wpE_truthyS, wp_isStr, wpE_lenS, wpE_lenG, wpE_range1, wpE_range2, wpE_iterS, wpE_iterG, wpE_max2, wpE_min2, if_true, if_false, String.reduceEq, reduceIte, true_and, and_true, List.length_nil, List.length_cons, List.nil_append, List.cons_append, Bool.false_eq_true, decide_eq_true_eq, Nat.zero_le, Int.reduceLT, Int.reduceLE, Int.reduceNeg, Nat.reduceLeDiff, Nat.reduceAdd, hs, wL_gAttr (n := "useragents") (v := .obj U) g1 a2 (by intro u e; cases e), wL_iter gU]
  have pX : ∀ r : List O, ss' <+: ss' ++ r := fun r => List.prefix_append _ _
  refine wp_for (f := V.str) ags (fun d sl2 ss2 => sl2 "self" = some (.obj i) ∧ sl2 "ret" = some (.obj ss'.length) ∧ ss2 = ss' ++ [O.list ((lnA d).map V.str)]) (fun d sl2 ss2 hI p hp => by cases hp; rw [hI.2.2]; exact get_pre (pX _) oU) (fun d g r sl2 ss2 hd hI => ?_) (fun sl2 ss2 hI => ?_) ⟨by simpa using hs, by simp, rfl⟩
  · obtain ⟨i1, i2, rfl⟩ := hI
    have hg : g ∈ ags := by rw [hd]; simp
    have hgl : g.length ≤ 1000000 - 12 := by
      have : (cUA ++ g).length ≤ ((lnA ags).map (·.length)).sum := mem_sum (by unfold lnA; exact List.mem_map_of_mem hg)
      rw [List.length_append, len_UA] at this
      omega
    have hgl2 : cUA.length + g.length ≤ 1000000 := by
      have : (cUA ++ g).length ≤ ((lnA ags).map (·.length)).sum := mem_sum (by unfold lnA; exact List.mem_map_of_mem hg)
      rw [List.length_append] at this
      omega
    have hdl : d.length ≤ 1000000 := by
      have := congrArg List.length hd
      simp at this
      omega
    rw [wp_bind, wp_setL]
    unfold str_04_f1
    have hl1 : (List.length ([] : List Nat)) + cUA.length ≤ 1000000 := by rw [len_UA]; decide
    simp only [wp_bind, wp_pure, wp_seq', wp_ite, wp_and, wp_or, wp_setL, wp_allocList, wp_allocTuple, wp_alloc, wpE_get, wpE_mod, wpE_div, wpE_pow, wpE_iaddS, wpE_iaddI, wpE_addS, wp_add, wp_sub, wp_neg, wpE_lt, wpE_le, wpE_gt, wpE_ge, wpE_eq, wpE_ne, wpE_is, wpE_isnot, isP_bool, isP_obj, eqP_int, eqP_str, wpE_in, wpE_notin, wp_truthyB, wpE_truthyI, wpE_truthyN, wpE_truthyS, wp_isStr, wpE_lenS, wpE_lenG, wpE_range1, wpE_range2, wpE_iterS, wpE_iterG, wpE_max2, wpE_min2, if_true, if_false, String.reduceEq, reduceIte, true_and, and_true, List.length_nil, List.length_cons, List.nil_append, List.cons_append, Bool.false_eq_true, decide_eq_true_eq, Nat.zero_le, Int.reduceLT, Int.reduceLE, Int.reduceNeg, Nat.reduceLeDiff, Nat.reduceAdd, i2, wL_isList (get_app_len ss' (O.list ((lnA d).map V.str)) []), wp_join1, wp_join0, wp_fmtS]
    refine ⟨hl1, by omega, by show ([] ++ cUA).length + g.length ≤ _; rw [List.nil_append]; omega, ?_⟩
    rw [wL_append (get_app_len _ _ _) (by simp [lnA]; omega), set_app_len]
    refine ⟨by simpa using i1, by simpa using i2, ?_⟩
    show ss' ++ [O.list ((lnA d).map V.str ++ [V.str (cUA ++ g)])] = _
    simp [lnA]
  · obtain ⟨i1, i2, rfl⟩ := hI
    generalize hL1 : lnA ags = L1 at hb' hal hK
    have q1 := get_pre (pX [O.list (L1.map V.str)]) a1
    dsimp only
    rw [wpx_seq]
    unfold str_04_s7
    rw [wpx_ok]
    cases hdv : dv with
    | none =>
      rw [hdv] at a4 hK
      simp only [wp_bind, wp_pure, wp_seq', wp_ite, wp_and, wp_or, wp_setL, wp_allocList, wp_allocTuple, wp_alloc, wpE_get, wpE_mod, wpE_div, wpE_pow, wpE_iaddS, wpE_iaddI, wpE_addS, wp_add, wp_sub, wp_neg, wpE_lt, wpE_le, wpE_gt, wpE_ge, wpE_eq, wpE_ne, wpE_is, wpE_isnot, isP_bool, isP_obj, eqP_int, eqP_str, wpE_in, wpE_notin, wp_truthyB, wpE_truthyI, wpE_truthyN, wpE_truthyS, wp_isStr, wpE_lenS, wpE_lenG, wpE_range1, wpE_range2, wpE_iterS, wpE_iterG, wpE_max2, wpE_min2, if_true, if_false, String.reduceEq, reduceIte, true_and, and_true, List.length_nil, List.length_cons, List.nil_append, List.cons_append, Bool.false_eq_true, decide_eq_true_eq, Nat.zero_le, Int.reduceLT, Int.reduceLE, Int.reduceNeg, Nat.reduceLeDiff, Nat.reduceAdd, i1, wL_gAttr (n := "delay") (v := .none) q1 a4 (by intro u e; cases e), isP, Bool.not_true]
      have := hK sl2 i1 i2
      simpa [lnD] using this
    | some dd =>
      rw [hdv] at a4 hb' hK
      have hd1 : (cCD ++ cpsI dd).length ≤ 1000000 := by
        have : ((lnD (some dd)).map (·.length)).sum = (cCD ++ cpsI dd).length := by simp [lnD]
        omega
      rw [List.length_append] at hd1
      simp only [wp_bind, wp_pure, wp_seq', wp_ite, wp_and, wp_or, wp_setL, wp_allocList, wp_allocTuple, wp_alloc, wpE_get, wpE_mod, wpE_div, wpE_pow, wpE_iaddS, wpE_iaddI, wpE_addS, wp_add, wp_sub, wp_neg, wpE_lt, wpE_le, wpE_gt, wpE_ge, wpE_eq, wpE_ne, wpE_is, wpE_isnot, isP_bool, isP_obj, eqP_int, eqP_str, wpE_in, wpE_notin, wp_truthyB, wpE_truthyI, wpE_truthyN, wpE_truthyS, wp_isStr, wpE_lenS, wpE_lenG, wpE_range1, wpE_range2, wpE_iterS, wpE_iterG, wpE_max2, wpE_min2, if_true, if_false, String.reduceEq, reduceIte, true_and, and_true, List.length_nil, List.length_cons, List.nil_append, List.cons_append, Bool.false_eq_true, decide_eq_true_eq, Nat.zero_le, Int.reduceLT, Int.reduceLE, Int.reduceNeg, Nat.reduceLeDiff, Nat.reduceAdd, i1, i2, wL_gAttr (n := "delay") (v := .int dd) q1 a4 (by intro u e; cases e), isP, Bool.not_false, wL_isList (get_app_len ss' (O.list (L1.map V.str)) []), wp_join1, wp_join0, wp_fmtI]
      refine ⟨by show 0 + cCD.length ≤ _; omega, sd dd hdv, by show ([] ++ cCD).length + _ ≤ _; rw [List.nil_append]; omega, ?_⟩
      rw [wL_append (get_app_len _ _ _) (by simp; omega), set_app_len]
      have := hK sl2 i1 i2
      simpa [lnD, cCD, wp_pure] using this
end Mine
set_option linter.unusedSimpArgs false
set_option linter.unusedVariables false
namespace Mine
/-- the rate -/
theorem x_rate {ss' : List O} {i : Nat} {as : List (String × V)} {v : V} {rx : RS} (a1 : ss'[i]? = some (.inst as)) (a5 : as.lookup "req_rate" = some v) (a6 : rateX ss' rx v) {L2 : List (List Nat)}
    (hb : ((L2 ++ lnR (rvOf rx)).map (·.length)).sum + (L2 ++ lnR (rvOf rx)).length ≤ 1000000) {sl3 : String → Option V} (j1 : sl3 "self" = some (.obj i)) (j2 : sl3 "ret" = some (.obj ss'.length)) {Q : Fl → St → Prop} {E : String → St → Prop}
    (hK : match rx with | .bad => ∀ sl4, E "AttributeError" ⟨sl4, ss' ++ [O.list (L2.map V.str)]⟩ | _ => ∀ sl4, sl4 "self" = some (.obj i) → sl4 "ret" = some (.obj ss'.length) → Q .next ⟨sl4, ss' ++ [O.list ((L2 ++ lnR (rvOf rx)).map V.str)]⟩) :
    wpx str_04_s8 ⟨sl3, ss' ++ [O.list (L2.map V.str)]⟩ Q E := by
  rw [sum_app, List.length_append] at hb
  have q2 := get_pre (ss_app ss' [O.list (L2.map V.str)]) a1
  have hrr : 0 + cRR.length ≤ 1000000 := by rw [len_RR]; decide
  unfold str_04_s8
  rw [wpx_ite, wpx_ok]
  cases rx with
  | non =>
    have a6 : v = .none := a6
    subst a6
    simp only [wp_bind, wp_pure, wp_seq', wp_ite, wp_and, wp_or, wp_setL, wp_allocList, wp_allocTuple, wp_alloc, wpE_get, wpE_mod, wpE_div, wpE_pow, wpE_iaddS, wpE_iaddI, wpE_addS, wp_add, wp_sub, wp_neg, wpE_lt, wpE_le, wpE_gt, wpE_ge, wpE_eq, wpE_ne, wpE_is, wpE_isnot, isP_bool, isP_obj, eqP_int, eqP_str, wpE_in, wpE_notin, wp_truthyB, wpE_truthyI, wpE_truthyN, wpE_truthyS, wp_isStr, wpE_lenS, wpE_lenG, wpE_range1, wpE_range2, wpE_iterS, wpE_iterG, wpE_max2, wpE_min2, if_true, if_false, String.reduceEq, reduceIte, true_and, and_true, List.length_nil, List.length_cons, List.nil_append, List.cons_append, Bool.false_eq_true, decide_eq_true_eq, Nat.zero_le, Int.reduceLT, Int.reduceLE, Int.reduceNeg, Nat.reduceLeDiff, Nat.reduceAdd, j1, wL_gAttr (n := "req_rate") (v := .none) q2 a5 (by intro u e; cases e), isP, Bool.not_true]
    rw [wpx_pure]
    have := hK sl3 j1 j2
    simpa [lnR, rvOf] using this
  | whole a b =>
    obtain ⟨q, bs, rfl, b2, b3, b4, b5, b6⟩ := a6
    have b2' := get_pre (ss_app ss' [O.list (L2.map V.str)]) b2
    have hd1 : (cRR ++ cpsI a ++ [47] ++ cpsI b).length ≤ 1000000 := by
      have : ((lnR (rvOf (.whole a b))).map (·.length)).sum = (cRR ++ cpsI a ++ [47] ++ cpsI b).length := by simp [lnR, rvOf]
      omega
    simp only [List.length_append, List.length_singleton] at hd1
    simp only [wp_bind, wp_pure, wp_seq', wp_ite, wp_and, wp_or, wp_setL, wp_allocList, wp_allocTuple, wp_alloc, wpE_get, wpE_mod, wpE_div, wpE_pow, wpE_iaddS, wpE_iaddI, wpE_addS, wp_add, wp_sub, wp_neg, wpE_lt, wpE_le, wpE_gt, wpE_ge, wpE_eq, wpE_ne, wpE_is, wpE_isnot, isP_bool, isP_obj, eqP_int, eqP_str, wpE_in, wpE_notin, wp_truthyB, wpE_truthyI, wpE_truthyN, wpE_truthyS, wp_isStr, wpE_lenS, wpE_lenG, wpE_range1, wpE_range2, wpE_iterS, wpE_iterG, wpE_max2, wpE_min2, if_true, if_false, String.reduceEq, reduceIte, true_and, and_true, List.length_nil, List.length_cons, List.nil_append, List.cons_append, Bool.false_eq_true, decide_eq_true_eq, Nat.zero_le, Int.reduceLT, Int.reduceLE, Int.reduceNeg, Nat.reduceLeDiff, Nat.reduceAdd, j1, wL_gAttr (n := "req_rate") (v := .obj q) q2 a5 (by intro u e; cases e), isP, Bool.not_false]
    rw [wpx_seq]
    unfold str_04_s2 str_04_s3
    rw [wpx_ok]
    simp only [wp_bind, wp_pure, wp_seq', wp_ite, wp_and, wp_or, wp_setL, wp_allocList, wp_allocTuple, wp_alloc, wpE_get, wpE_mod, wpE_div, wpE_pow, wpE_iaddS, wpE_iaddI, wpE_addS, wp_add, wp_sub, wp_neg, wpE_lt, wpE_le, wpE_gt, wpE_ge, wpE_eq, wpE_ne, wpE_is, wpE_isnot, isP_bool, isP_obj, eqP_int, eqP_str, wpE_in, wpE_notin, wp_truthyB, wpE_truthyI, wpE_truthyN, wpE_truthyS, wp_isStr, wpE_lenS, wpE_lenG, wpE_range1, wpE_range2, wpE_iterS, wpE_iterG, wpE_max2, wpE_min2, if_true, if_false, String.reduceEq, reduceIte, true_and, and_true, List.length_nil, List.length_cons, List.nil_append, List.cons_append, Bool.false_eq_true, decide_eq_true_eq, Nat.zero_le, Int.reduceLT, Int.reduceLE, Int.reduceNeg, Nat.reduceLeDiff, Nat.reduceAdd, j1, wL_gAttr (n := "req_rate") (v := .obj q) q2 a5 (by intro u e; cases e)]
    simp only [wpx_bind, wpx_get, String.reduceEq, if_false, if_true, reduceIte, j2, wpx_nox (nox_isList _), wL_isList (get_app_len ss' (O.list (L2.map V.str)) []), wpx_join1, wpx_join0, wpx_pure, wpx_gOk (n := "requests") (v := .int a) b2' b3 (by intro u e; cases e), wpx_gOk (n := "seconds") (v := .int b) b2' b4 (by intro u e; cases e), wpx_nox (nox_fmt _), wp_fmtI, cps_sl]
    refine ⟨hrr, b5, by show ([] ++ cRR).length + _ ≤ _; rw [List.nil_append]; omega, by show (cRR ++ cpsI a).length + _ ≤ _; simp; omega, b6, by show ([] ++ cRR ++ cpsI a ++ [47]).length + _ ≤ _; simp; omega, ?_⟩
    rw [wpx_nox (nox_append _), wL_append (get_app_len _ _ _) (by simp; omega), set_app_len]
    have := hK (fun k => if k = "rate" then some (V.obj q) else sl3 k) (by simpa using j1) (by simpa using j2)
    simpa [lnR, rvOf, cRR, wpx_pure] using this
  | bad =>
    obtain ⟨q, rfl, hq⟩ := a6
    simp only [wp_bind, wp_pure, wp_seq', wp_ite, wp_and, wp_or, wp_setL, wp_allocList, wp_allocTuple, wp_alloc, wpE_get, wpE_mod, wpE_div, wpE_pow, wpE_iaddS, wpE_iaddI, wpE_addS, wp_add, wp_sub, wp_neg, wpE_lt, wpE_le, wpE_gt, wpE_ge, wpE_eq, wpE_ne, wpE_is, wpE_isnot, isP_bool, isP_obj, eqP_int, eqP_str, wpE_in, wpE_notin, wp_truthyB, wpE_truthyI, wpE_truthyN, wpE_truthyS, wp_isStr, wpE_lenS, wpE_lenG, wpE_range1, wpE_range2, wpE_iterS, wpE_iterG, wpE_max2, wpE_min2, if_true, if_false, String.reduceEq, reduceIte, true_and, and_true, List.length_nil, List.length_cons, List.nil_append, List.cons_append, Bool.false_eq_true, decide_eq_true_eq, Nat.zero_le, Int.reduceLT, Int.reduceLE, Int.reduceNeg, Nat.reduceLeDiff, Nat.reduceAdd, j1, wL_gAttr (n := "req_rate") (v := .obj q) q2 a5 (by intro u e; cases e), isP, Bool.not_false]
    rw [wpx_seq]
    unfold str_04_s2 str_04_s3
    rw [wpx_ok]
    simp only [wp_bind, wp_pure, wp_seq', wp_ite, wp_and, wp_or, wp_setL, wp_allocList, wp_allocTuple, wp_alloc, wpE_get, wpE_mod, wpE_div, wpE_pow, wpE_iaddS, wpE_iaddI, wpE_addS, wp_add, wp_sub, wp_neg, wpE_lt, wpE_le, wpE_gt, wpE_ge, wpE_eq, wpE_ne, wpE_is, wpE_isnot, isP_bool, isP_obj, eqP_int, eqP_str, wpE_in, wpE_notin, wp_truthyB, wpE_truthyI, wpE_truthyN, wpE_truthyS, wp_isStr, wpE_lenS, wpE_lenG, wpE_range1, wpE_range2, wpE_iterS, wpE_iterG, wpE_max2, wpE_min2, if_true, if_false, String.reduceEq, reduceIte, true_and, and_true, List.length_nil, List.length_cons, List.nil_append, List.cons_append, Bool.false_eq_true, decide_eq_true_eq, Nat.zero_le, Int.reduceLT, Int.reduceLE, Int.reduceNeg, Nat.reduceLeDiff, Nat.reduceAdd, j1, wL_gAttr (n := "req_rate") (v := .obj q) q2 a5 (by intro u e; cases e)]
    simp only [wpx_bind, wpx_get, String.reduceEq, if_false, if_true, reduceIte, j2, wpx_nox (nox_isList _), wL_isList (get_app_len ss' (O.list (L2.map V.str)) []), wpx_join1, wpx_join0, wpx_pure]
    refine ⟨hrr, ?_⟩
    rcases hq with ⟨vs, b2⟩ | ⟨bs, b2, b3 | ⟨a, b3, b4, b5, b6⟩⟩
    · rw [wpx_gTup (get_pre (ss_app ss' _) b2)]
      exact hK _
    · rw [wpx_gMiss (get_pre (ss_app ss' _) b2) b3]
      exact hK _
    · have b2' := get_pre (ss_app ss' [O.list (L2.map V.str)]) b2
      simp only [wpx_gOk (n := "requests") (v := .int a) b2' b3 (by intro u e; cases e), wpx_nox (nox_fmt _), wp_fmtI, cps_sl]
      refine ⟨b4, by show ([] ++ cRR).length + _ ≤ _; rw [List.nil_append, len_RR]; omega, by show (cRR ++ cpsI a).length + 1 ≤ _; rw [List.length_append, len_RR]; omega, ?_⟩
      simp only [if_true]
      rw [wpx_gMiss b2' b6]
      exact hK _
/-- the rules, and the end -/
theorem x_tail {k : Nat} {ss ss' : List O} {i R : Nat} {as : List (String × V)} {rs : List V} {ws : List (Option (List Nat))} (hp : ss <+: ss') (a1 : ss'[i]? = some (.inst as)) (a3 : as.lookup "rulelines" = some (.obj R)) (oR : ss'[R]? = some (.list rs)) (hw : Paired (TXx k ss) rs ws) {L3 : List (List Nat)}
    (hb : L3.length + rs.length ≤ 1000000) (hb2 : ∀ wl, allO ws = some wl → ((L3 ++ lnW wl).map (·.length)).sum + (L3 ++ lnW wl).length ≤ 1000000) {sl4 : String → Option V} (k1 : sl4 "self" = some (.obj i)) (k2 : sl4 "ret" = some (.obj ss'.length)) {Q : Fl → St → Prop} {E : String → St → Prop}
    (hK : ∀ sl5 more, match allO ws with | some wl => Q (.ret (.str (joinL [10] (L3 ++ lnW wl)))) ⟨sl5, ss' ++ more⟩ | none => E "AttributeError" ⟨sl5, ss' ++ more⟩) :
    wpx (seqF (str_04_s9 (strX k)) str_04_s10) ⟨sl4, ss' ++ [O.list (L3.map V.str)]⟩ Q E := by
  have hwl := hw.length
  have q3 := get_pre (ss_app ss' [O.list (L3.map V.str)]) a1
  have r3 := get_pre (ss_app ss' [O.list (L3.map V.str)]) oR
  have fin : ∀ (wl : List (List Nat)) (sl5 : String → Option V) (more : List O), allO ws = some wl → sl5 "ret" = some (.obj ss'.length) → wpx str_04_s10 ⟨sl5, ss' ++ O.list ((L3 ++ lnW wl).map V.str) :: more⟩ Q E := by
    intro wl sl5 more hwl hr
    unfold str_04_s10
    rw [wpx_ok]
    simp only [wp_bind, wp_pure, wp_seq', wp_ite, wp_and, wp_or, wp_setL, wp_allocList, wp_allocTuple, wp_alloc, wpE_get, wpE_mod, wpE_div, wpE_pow, wpE_iaddS, wpE_iaddI, wpE_addS, wp_add, wp_sub, wp_neg, wpE_lt, wpE_le, wpE_gt, wpE_ge, wpE_eq, wpE_ne, wpE_is, wpE_isnot, isP_bool, isP_obj, eqP_int, eqP_str, wpE_in, wpE_notin, wp_truthyB, wpE_truthyI, wpE_truthyN, wpE_truthyS, wp_isStr, wpE_lenS, wpE_lenG, wpE_range1, wpE_range2, wpE_iterS, wpE_iterG, wpE_max2, wpE_min2, if_true, if_false, String.reduceEq, reduceIte, true_and, and_true, List.length_nil, List.length_cons, List.nil_append, List.cons_append, Bool.false_eq_true, decide_eq_true_eq, Nat.zero_le, Int.reduceLT, Int.reduceLE, Int.reduceNeg, Nat.reduceLeDiff, Nat.reduceAdd, hr, cps_nl]
    rw [wL_join (get_app_len _ _ _) (hb2 wl hwl) (by decide)]
    have := hK sl5 (O.list ((L3 ++ lnW wl).map V.str) :: more)
    rw [hwl] at this
    exact this
  rw [wpx_seq]
  unfold str_04_s9
  rw [wpx_ite, wpx_ok]
  simp only [wp_bind, wp_pure, wp_seq', wp_ite, wp_and, wp_or, wp_setL, wp_allocList, wp_allocTuple, wp_alloc, wpE_get, wpE_mod, wpE_div, wpE_pow, wpE_iaddS, wpE_iaddI, wpE_addS, wp_add, wp_sub, wp_neg, wpE_lt, wpE_le, wpE_gt, wpE_ge, wpE_eq, wpE_ne, wpE_is, wpE_isnot, isP_bool, isP_obj, eqP_int, eqP_str, wpE_in, wpE_notin, wp_truthyB, wpE_truthyI, wpE_truthyN, wpE_truthyS, wp_isStr, wpE_lenS, wpE_lenG, wpE_range1, wpE_range2, wpE_iterS, wpE_iterG, wpE_max2, wpE_min2, if_true, if_false, String.reduceEq, reduceIte, true_and, and_true, List.length_nil, List.length_cons, List.nil_append, List.cons_append, Bool.false_eq_true, decide_eq_true_eq, Nat.zero_le, Int.reduceLT, Int.reduceLE, Int.reduceNeg, Nat.reduceLeDiff, Nat.reduceAdd, k1, wL_gAttr (n := "rulelines") (v := .obj R) q3 a3 (by intro u e; cases e), wL_truthy r3]
  refine ⟨by omega, ?_⟩
  by_cases hrs : rs = []
  · subst hrs
    have hws : ws = [] := List.length_eq_zero_iff.mp hwl.symm
    subst hws
    simp only [List.isEmpty_nil, Bool.not_true, Bool.false_eq_true, if_false]
    rw [wpx_ok]
    simp only [wp_bind, wp_pure, wp_seq', wp_ite, wp_and, wp_or, wp_setL, wp_allocList, wp_allocTuple, wp_alloc, wpE_get, wpE_mod, wpE_div, wpE_pow, wpE_iaddS, wpE_iaddI, wpE_addS, wp_add, wp_sub, wp_neg, wpE_lt, wpE_le, wpE_gt, wpE_ge, wpE_eq, wpE_ne, wpE_is, wpE_isnot, isP_bool, isP_obj, eqP_int, eqP_str, wpE_in, wpE_notin, wp_truthyB, wpE_truthyI, wpE_truthyN, wpE_truthyS, wp_isStr, wpE_lenS, wpE_lenG, wpE_range1, wpE_range2, wpE_iterS, wpE_iterG, wpE_max2, wpE_min2, if_true, if_false, String.reduceEq, reduceIte, true_and, and_true, List.length_nil, List.length_cons, List.nil_append, List.cons_append, Bool.false_eq_true, decide_eq_true_eq, Nat.zero_le, Int.reduceLT, Int.reduceLE, Int.reduceNeg, Nat.reduceLeDiff, Nat.reduceAdd, k2, wL_isList (get_app_len ss' (O.list (L3.map V.str)) [])]
    rw [wL_append (get_app_len _ _ _) (by simp at hb ⊢; omega), set_app_len]
    have := fin [] sl4 [] rfl k2
    have e : O.list (L3.map V.str ++ [V.str (cps "Allow:")]) = O.list ((L3 ++ lnW []).map V.str) := by simp [lnW, cAll]
    rw [e]
    simp only [wp_pure]
    exact this
  · have hrne : rs.isEmpty = false := by cases rs with | nil => exact absurd rfl hrs | cons _ _ => rfl
    simp only [hrne, Bool.not_false, if_true]
    rw [wpx_bind, wpx_bind, wpx_get]
    simp only [k2]
    rw [wpx_bind, wpx_nox (nox_isList _), wL_isList (get_app_len ss' (O.list (L3.map V.str)) []), wpx_bind, wpx_ok]
    simp only [wp_bind, wp_pure, wp_seq', wp_ite, wp_and, wp_or, wp_setL, wp_allocList, wp_allocTuple, wp_alloc, wpE_get, wpE_mod, wpE_div, wpE_pow, wpE_iaddS, wpE_iaddI, wpE_addS, wp_add, wp_sub, wp_neg, wpE_lt, wpE_le, wpE_gt, wpE_ge, wpE_eq, wpE_ne, wpE_is, wpE_isnot, isP_bool, isP_obj, eqP_int, eqP_str, wpE_in, wpE_notin, wp_truthyB, wpE_truthyI, wpE_truthyN, wpE_truthyS, wp_isStr, wpE_lenS, wpE_lenG, wpE_range1, wpE_range2, wpE_iterS, wpE_iterG, wpE_max2, wpE_min2, if_true, if_false, String.reduceEq, reduceIte, true_and, and_true, List.length_nil, List.length_cons, List.nil_append, List.cons_append, Bool.false_eq_true, decide_eq_true_eq, Nat.zero_le, Int.reduceLT, Int.reduceLE, Int.reduceNeg, Nat.reduceLeDiff, Nat.reduceAdd, k1, wL_gAttr (n := "rulelines") (v := .obj R) q3 a3 (by intro u e; cases e)]
    have eX : ∀ (Q2 : V → St → Prop) (E2 : String → St → Prop), wpx (extMap (callS (strX k)) (.obj ss'.length) (.obj R)) ⟨sl4, ss' ++ [O.list (L3.map V.str)]⟩ Q2 E2 = wpx (mapLoop (callS (strX k)) ss'.length (some (R, .list rs)) rs) ⟨sl4, ss' ++ [O.list (L3.map V.str)]⟩ Q2 E2 := by
      intro Q2 E2
      unfold wpx extMap
      simp only [get_app_len, r3]
      rw [if_pos (by simp; omega)]
    rw [eX]
    refine wpx_mapLoop hp oR hw L3 [] (by omega) fun more' => ?_
    cases hal : allO ws with
    | none =>
      intro ls'
      have := hK sl4 (O.list ls' :: more')
      rw [hal] at this
      exact this
    | some wl =>
      have hwn : wl ≠ [] := by
        rintro rfl
        cases ws with
        | nil => exact hrs (List.length_eq_zero_iff.mp hwl)
        | cons w r =>
          cases w with
          | none => simp [allO] at hal
          | some w =>
            simp only [allO] at hal
            cases q : allO r with
            | none => rw [q] at hal; cases hal
            | some y => rw [q] at hal; cases hal
      have hW : lnW wl = wl := if_neg hwn
      have := fin wl sl4 more' hal k2
      rw [hW] at this
      exact this
theorem txx_ent {k : Nat} {ss : List O} {i U R : Nat} {ags : List (List Nat)} {dv : Option Int} {rx : RS} {rs : List V} {ws : List (Option (List Nat))} (h : EntX ss i U R ags dv rx rs) (hw : Paired (TXx k ss) rs ws)
    (hb : ((lnA ags ++ lnD dv ++ lnR (rvOf rx)).map (·.length)).sum + (lnA ags ++ lnD dv ++ lnR (rvOf rx)).length + rs.length ≤ 1000000) (hb2 : ∀ wl, allO ws = some wl → ((linesE ags dv (rvOf rx) wl).map (·.length)).sum + (linesE ags dv (rvOf rx) wl).length ≤ 1000000) : TXx (k + 1) ss (.obj i) (outc ags dv rx ws) := by
  intro loc ss' Q E hp hQ
  have h' := h.pre hp
  obtain ⟨⟨as, v, a1, a2, a3, a4, a5, a6⟩, oU, oR, sd⟩ := h'
  rw [wpx_strPO a1]
  show wpx (callP ["self"] (onlyAE (strXB (strX k))) [.obj i]) ⟨loc, ss'⟩ _ _
  rw [wpx_call rfl, loc1, wpx_only]
  unfold strXB
  by_cases hag : ags = []
  · subst hag
    rw [wpx_seq]
    unfold str_04_s4
    rw [wpx_ok]
    simp only [wp_bind, wp_pure, wp_seq', wp_ite, wp_and, wp_or, wp_setL, wp_allocList, wp_allocTuple, wp_alloc, wpE_get, wpE_mod, wpE_div, wpE_pow, wpE_iaddS, wpE_iaddI, wpE_addS, wp_add, wp_sub, wp_neg, wpE_lt, wpE_le, wpE_gt, wpE_ge, wpE_eq, wpE_ne, wpE_is, wpE_isnot, isP_bool, isP_obj, eqP_int, eqP_str, wpE_in, wpE_notin, wp_truthyB, wpE_truthyI, wpE_truthyN, wpE_truthyS, wp_isStr, wpE_lenS, wpE_lenG, wpE_range1, wpE_range2, wpE_iterS, wpE_iterG, wpE_max2, wpE_min2, if_true, if_false, String.reduceEq, reduceIte, true_and, and_true, List.length_nil, List.length_cons, List.nil_append, List.cons_append, Bool.false_eq_true, decide_eq_true_eq, Nat.zero_le, Int.reduceLT, Int.reduceLE, Int.reduceNeg, Nat.reduceLeDiff, Nat.reduceAdd, wL_gAttr (n := "useragents") (v := .obj U) a1 a2 (by intro u e; cases e), wL_truthy oU, cps_e]
    refine ⟨by simp, ?_⟩
    simp only [List.map_nil, List.isEmpty_nil, Bool.not_true, Bool.not_false, if_true]
    have := hQ ss' (List.prefix_refl _)
    unfold outc at this
    rw [if_pos rfl] at this
    exact this
  have hO1 : outc ags dv .bad ws = none := by unfold outc; rw [if_neg hag]
  have hO2 : outc ags dv .non ws = (allO ws).map fun wl => joinL [10] (linesE ags dv (rvOf .non) wl) := by unfold outc; rw [if_neg hag]
  have hO3 : ∀ a b, outc ags dv (.whole a b) ws = (allO ws).map fun wl => joinL [10] (linesE ags dv (rvOf (.whole a b)) wl) := fun a b => by unfold outc; rw [if_neg hag]
  have hb' := hb
  rw [sum_app, List.length_append] at hb'
  refine x_front a1 a2 a4 oU sd (by omega) hag (by simp) fun sl3 j1 j2 => ?_
  rw [wpx_seq]
  refine x_rate a1 a5 a6 (by omega) j1 j2 ?_
  have go : ∀ sl4 : String → Option V, sl4 "self" = some (.obj i) → sl4 "ret" = some (.obj ss'.length) → outc ags dv rx ws = (allO ws).map (fun wl => joinL [10] (linesE ags dv (rvOf rx) wl)) →
      wpx (seqF (str_04_s9 (strX k)) str_04_s10) ⟨sl4, ss' ++ [O.list ((lnA ags ++ lnD dv ++ lnR (rvOf rx)).map V.str)]⟩ (fun fl st' => match (match fl with | .ret v => v | _ => V.none) with | .str l => Q (.str l) ⟨loc, st'.sto⟩ | _ => False) (fun k st' => k = "AttributeError" ∧ E k ⟨loc, st'.sto⟩) := by
    intro sl4 k1 k2 hO
    refine x_tail hp a1 a3 oR hw (by omega) (fun wl hwl => hb2 wl hwl) k1 k2 fun sl5 more => ?_
    have := hQ (ss' ++ more) (ss_app _ _)
    rw [hO] at this
    cases hal : allO ws with
    | none => rw [hal] at this; exact ⟨rfl, this⟩
    | some wl => rw [hal] at this; exact this
  cases rx with
  | bad =>
    intro sl4
    have := hQ (ss' ++ [O.list ((lnA ags ++ lnD dv).map V.str)]) (ss_app _ _)
    rw [hO1] at this
    exact ⟨rfl, this⟩
  | non => exact fun sl4 k1 k2 => go sl4 k1 k2 hO2
  | whole a b => exact fun sl4 k1 k2 => go sl4 k1 k2 (hO3 a b)
def outV : Option (List Nat) → V
  | some t => .str t
  | none => .none
/-- the law's own text of a record -/
theorem wp_text {ss : List O} {i : Nat} {w : Option (List Nat)} (h : TXx 2 ss (.obj i) w) {loc : String → Option V} {Q : V → St → Prop} (hQ : ∀ ss', ss <+: ss' → Q (outV w) ⟨loc, ss'⟩) : wp (callP ["one"] text04 [.obj i]) ⟨loc, ss⟩ Q := by
  rw [wp_call rfl, loc1]
  unfold text04
  refine wpx_try ?_
  unfold text_04_t1
  rw [wpx_bind, wpx_bind, wpx_ok]
  simp only [wp_bind, wp_pure, wp_seq', wp_ite, wp_and, wp_or, wp_setL, wp_allocList, wp_allocTuple, wp_alloc, wpE_get, wpE_mod, wpE_div, wpE_pow, wpE_iaddS, wpE_iaddI, wpE_addS, wp_add, wp_sub, wp_neg, wpE_lt, wpE_le, wpE_gt, wpE_ge, wpE_eq, wpE_ne, wpE_is, wpE_isnot, isP_bool, isP_obj, eqP_int, eqP_str, wpE_in, wpE_notin, wp_truthyB, wpE_truthyI, wpE_truthyN, wpE_truthyS, wp_isStr, wpE_lenS, wpE_lenG, wpE_range1, wpE_range2, wpE_iterS, wpE_iterG, wpE_max2, wpE_min2, if_true, if_false, String.reduceEq, reduceIte, true_and, and_true, List.length_nil, List.length_cons, List.nil_append, List.cons_append, Bool.false_eq_true, decide_eq_true_eq, Nat.zero_le, Int.reduceLT, Int.reduceLE, Int.reduceNeg, Nat.reduceLeDiff, Nat.reduceAdd]
  show wpx (strP (callS (strX 2)) (.obj i)) _ _ _
  refine h _ _ _ _ (List.prefix_refl _) fun ss'' p => ?_
  have := hQ ss'' p
  cases w with
  | none => exact this
  | some t => exact this
end Mine
set_option linter.unusedSimpArgs false
set_option linter.unusedVariables false
namespace Mine
def tFig : List Nat := cps "fig"
def tPlum : List Nat := cps "plum"
def tDis : List Nat := cps "Disallow: /"
def tAlx : List Nat := cps "Allow: /x"
def agsN (n : Int) : List (List Nat) := if n = 0 then [] else if n = 1 then [tFig] else [tFig, tPlum]
def rsN (k : Int) : RS := if k = 0 then .non else if k = 1 then .whole 3 5 else .bad
def wsN (f : Int) : List (Option (List Nat)) := if f = 0 then [] else if f = 1 then [some tDis, some tAlx] else if f = 2 then [some tDis, none, some tAlx] else [some tDis, some [], some tAlx]
def dvN (late : Bool) : Option Int := if late = true then some 0 else none
def front0 (n : Int) : List Nat := if n = 0 then cps "" else if n = 1 then cps "User-agent: fig\n" else cps "User-agent: fig\nUser-agent: plum\n"
def frontN (n : Int) (late : Bool) : List Nat := front0 n ++ (if late = true then cps "Crawl-delay: 0\n" else cps "")
def rateT (k : Int) : List Nat := if k = 0 then cps "" else cps "Request-rate: 3/5\n"
def tailT (f : Int) : List Nat := if f = 0 then cps "Allow:" else if f = 1 then cps "Disallow: /\nAllow: /x" else if f = 2 then cps "" else cps "Disallow: /\n\nAllow: /x"
def dueN (n k f : Int) (late : Bool) : Option (List Nat) := if n = 0 then some (cps "") else if 1 < k ∨ f = 2 then none else some (frontN n late ++ rateT k ++ tailT f)
def endN (n : Int) (late : Bool) : List Nat := if n = 0 then cps "" else frontN n late ++ cps "Request-rate: 3/5\nAllow:"
abbrev N3 : List Int := [0, 1, 2]
abbrev N5 : List Int := [0, 1, 2, 3, 4]
abbrev N4 : List Int := [0, 1, 2, 3]
theorem due_eq : ∀ n ∈ N3, ∀ k ∈ N5, ∀ f ∈ N4, ∀ late : Bool, outc (agsN n) (dvN late) (rsN k) (wsN f) = dueN n k f late := by decide +kernel
theorem end_eq : ∀ n ∈ N3, ∀ late : Bool, outc (agsN n) (dvN late) (.whole 3 5) [] = some (endN n late) := by decide +kernel
theorem front_len : ∀ n ∈ N3, ∀ late : Bool, (front0 n).length ≤ 100 ∧ (frontN n late).length ≤ 100 := by decide +kernel
theorem bound1 : ∀ n ∈ N3, ∀ k ∈ N5, ∀ late : Bool, ((lnA (agsN n) ++ lnD (dvN late) ++ lnR (rvOf (rsN k))).map (·.length)).sum + (lnA (agsN n) ++ lnD (dvN late) ++ lnR (rvOf (rsN k))).length ≤ 1000 := by decide +kernel
def bd2 (ags : List (List Nat)) (dv : Option Int) (rv : Option (Int × Int)) (ws : List (Option (List Nat))) : Bool := match allO ws with
  | none => true
  | some wl => decide (((linesE ags dv rv wl).map (·.length)).sum + (linesE ags dv rv wl).length ≤ 1000)
theorem bound2 : ∀ n ∈ N3, ∀ k ∈ N5, ∀ f ∈ N4, ∀ late : Bool, bd2 (agsN n) (dvN late) (rvOf (rsN k)) (wsN f) = true := by decide +kernel
theorem bound3 : ∀ n ∈ N3, ∀ late : Bool, bd2 (agsN n) (dvN late) (some (3, 5)) [] = true := by decide +kernel
theorem bd2_of {ags : List (List Nat)} {dv : Option Int} {rv : Option (Int × Int)} {ws : List (Option (List Nat))} (h : bd2 ags dv rv ws = true) : ∀ wl, allO ws = some wl → ((linesE ags dv rv wl).map (·.length)).sum + (linesE ags dv rv wl).length ≤ 1000000 := by
  intro wl e
  unfold bd2 at h
  rw [e] at h
  have := of_decide_eq_true h
  omega
theorem dv_small (late : Bool) : ∀ d, dvN late = some d → small d = true := by
  cases late <;> intro d e <;> cases e <;> decide
section
variable {loc : String → Option V} {ss : List O}
theorem wL_itemI {j k : Nat} {c : Int} {xs : List V} {v : V} {Q : V → St → Prop} (hc : c = (k : Int)) (h : ss[j]? = some (.list xs)) (hl : xs.length ≤ 1000000) (hk : xs[k]? = some v) : wp (pItem (.obj j) (.int c)) ⟨loc, ss⟩ Q = Q v ⟨loc, ss⟩ := by
  subst hc; exact wL_item h hl hk
theorem get_k {l r : List O} {n k : Nat} (h : n = l.length + k) : (l ++ r)[n]? = r[k]? := by subst h; exact get_app_add _ _ _
theorem set_k {l r : List O} {n k : Nat} {o : O} (h : n = l.length + k) : (l ++ r).set n o = l ++ r.set k o := by
  subst h
  rw [List.set_append_right _ _ (by omega)]
  congr 2
  omega
/-- _law_rate -/
theorem wp_rate {k : Int} (hk : k ∈ N5) {Q : V → St → Prop} (hQ : ∀ v ss', ss <+: ss' → rateX ss' (rsN k) v → Q v ⟨loc, ss'⟩) : wp (callP ["kind"] rate04 [.int k]) ⟨loc, ss⟩ Q := by
  rw [wp_call rfl, loc1]
  unfold rate04 rate_04_s1
  simp only [wp_bind, wp_pure, wp_seq', wp_ite, wp_and, wp_or, wp_setL, wp_allocList, wp_allocTuple, wp_alloc, wpE_get, wpE_mod, wpE_div, wpE_pow, wpE_iaddS, wpE_iaddI, wpE_addS, wp_add, wp_sub, wp_neg, wpE_lt, wpE_le, wpE_gt, wpE_ge, wpE_eq, wpE_ne, wpE_is, wpE_isnot, isP_bool, isP_obj, eqP_int, eqP_str, wpE_in, wpE_notin, wp_truthyB, wpE_truthyI, wpE_truthyN, wpE_truthyS, wp_isStr, wpE_lenS, wpE_lenG, wpE_range1, wpE_range2, wpE_iterS, wpE_iterG, wpE_max2, wpE_min2, if_true, if_false, String.reduceEq, reduceIte, true_and, and_true, List.length_nil, List.length_cons, List.nil_append, List.cons_append, Bool.false_eq_true, decide_eq_true_eq, Nat.zero_le, Int.reduceLT, Int.reduceLE, Int.reduceNeg, Nat.reduceLeDiff, Nat.reduceAdd]
  by_cases k0 : k = 0
  · subst k0
    simp only [decide_true, if_true]
    exact hQ .none ss (List.prefix_refl _) rfl
  simp only [k0, decide_false, Bool.false_eq_true, if_false]
  unfold rate_04_s2
  simp only [wp_bind, wp_pure, wp_seq', wp_ite, wp_and, wp_or, wp_setL, wp_allocList, wp_allocTuple, wp_alloc, wpE_get, wpE_mod, wpE_div, wpE_pow, wpE_iaddS, wpE_iaddI, wpE_addS, wp_add, wp_sub, wp_neg, wpE_lt, wpE_le, wpE_gt, wpE_ge, wpE_eq, wpE_ne, wpE_is, wpE_isnot, isP_bool, isP_obj, eqP_int, eqP_str, wpE_in, wpE_notin, wp_truthyB, wpE_truthyI, wpE_truthyN, wpE_truthyS, wp_isStr, wpE_lenS, wpE_lenG, wpE_range1, wpE_range2, wpE_iterS, wpE_iterG, wpE_max2, wpE_min2, if_true, if_false, String.reduceEq, reduceIte, true_and, and_true, List.length_nil, List.length_cons, List.nil_append, List.cons_append, Bool.false_eq_true, decide_eq_true_eq, Nat.zero_le, Int.reduceLT, Int.reduceLE, Int.reduceNeg, Nat.reduceLeDiff, Nat.reduceAdd]
  by_cases k4 : k = 4
  · subst k4
    simp only [decide_true, if_true]
    exact hQ _ _ (List.prefix_append _ _) ⟨_, rfl, .inl ⟨_, get_app_len _ _ _⟩⟩
  simp only [k4, decide_false, Bool.false_eq_true, if_false]
  unfold rate_04_s3
  simp only [wp_bind, wp_pure, wp_seq', wp_ite, wp_and, wp_or, wp_setL, wp_allocList, wp_allocTuple, wp_alloc, wpE_get, wpE_mod, wpE_div, wpE_pow, wpE_iaddS, wpE_iaddI, wpE_addS, wp_add, wp_sub, wp_neg, wpE_lt, wpE_le, wpE_gt, wpE_ge, wpE_eq, wpE_ne, wpE_is, wpE_isnot, isP_bool, isP_obj, eqP_int, eqP_str, wpE_in, wpE_notin, wp_truthyB, wpE_truthyI, wpE_truthyN, wpE_truthyS, wp_isStr, wpE_lenS, wpE_lenG, wpE_range1, wpE_range2, wpE_iterS, wpE_iterG, wpE_max2, wpE_min2, if_true, if_false, String.reduceEq, reduceIte, true_and, and_true, List.length_nil, List.length_cons, List.nil_append, List.cons_append, Bool.false_eq_true, decide_eq_true_eq, Nat.zero_le, Int.reduceLT, Int.reduceLE, Int.reduceNeg, Nat.reduceLeDiff, Nat.reduceAdd, wE_entry]
  unfold rate_04_s4
  simp only [wp_bind, wp_pure, wp_seq', wp_ite, wp_and, wp_or, wp_setL, wp_allocList, wp_allocTuple, wp_alloc, wpE_get, wpE_mod, wpE_div, wpE_pow, wpE_iaddS, wpE_iaddI, wpE_addS, wp_add, wp_sub, wp_neg, wpE_lt, wpE_le, wpE_gt, wpE_ge, wpE_eq, wpE_ne, wpE_is, wpE_isnot, isP_bool, isP_obj, eqP_int, eqP_str, wpE_in, wpE_notin, wp_truthyB, wpE_truthyI, wpE_truthyN, wpE_truthyS, wp_isStr, wpE_lenS, wpE_lenG, wpE_range1, wpE_range2, wpE_iterS, wpE_iterG, wpE_max2, wpE_min2, if_true, if_false, String.reduceEq, reduceIte, true_and, and_true, List.length_nil, List.length_cons, List.nil_append, List.cons_append, Bool.false_eq_true, decide_eq_true_eq, Nat.zero_le, Int.reduceLT, Int.reduceLE, Int.reduceNeg, Nat.reduceLeDiff, Nat.reduceAdd]
  have hsm : small 3 = true := by decide
  have hsm5 : small 5 = true := by decide
  have hl3 : (cpsI 3).length ≤ 1000 := by decide +kernel
  by_cases k3 : k = 3
  · subst k3
    simp only [decide_true, Bool.not_true, Bool.false_eq_true, if_false]
    unfold rate_04_s5
    simp only [wp_bind, wp_pure, wp_seq', wp_ite, wp_and, wp_or, wp_setL, wp_allocList, wp_allocTuple, wp_alloc, wpE_get, wpE_mod, wpE_div, wpE_pow, wpE_iaddS, wpE_iaddI, wpE_addS, wp_add, wp_sub, wp_neg, wpE_lt, wpE_le, wpE_gt, wpE_ge, wpE_eq, wpE_ne, wpE_is, wpE_isnot, isP_bool, isP_obj, eqP_int, eqP_str, wpE_in, wpE_notin, wp_truthyB, wpE_truthyI, wpE_truthyN, wpE_truthyS, wp_isStr, wpE_lenS, wpE_lenG, wpE_range1, wpE_range2, wpE_iterS, wpE_iterG, wpE_max2, wpE_min2, if_true, if_false, String.reduceEq, reduceIte, true_and, and_true, List.length_nil, List.length_cons, List.nil_append, List.cons_append, Bool.false_eq_true, decide_eq_true_eq, Nat.zero_le, Int.reduceLT, Int.reduceLE, Int.reduceNeg, Nat.reduceLeDiff, Nat.reduceAdd, Int.reduceEq, decide_false, Bool.not_false]
    rw [wN_sAttr]
    refine ⟨Nat.le_of_ble_eq_true rfl, ?_⟩
    unfold rate_04_s6
    try simp only [wp_bind, wp_pure, wp_seq', wp_ite, wp_and, wp_or, wp_setL, wp_allocList, wp_allocTuple, wp_alloc, wpE_get, wpE_mod, wpE_div, wpE_pow, wpE_iaddS, wpE_iaddI, wpE_addS, wp_add, wp_sub, wp_neg, wpE_lt, wpE_le, wpE_gt, wpE_ge, wpE_eq, wpE_ne, wpE_is, wpE_isnot, isP_bool, isP_obj, eqP_int, eqP_str, wpE_in, wpE_notin, wp_truthyB, wpE_truthyI, wpE_truthyN, wpE_truthyS, wp_isStr, wpE_lenS, wpE_lenG, wpE_range1, wpE_range2, wpE_iterS, wpE_iterG, wpE_max2, wpE_min2, if_true, if_false, String.reduceEq, reduceIte, true_and, and_true, List.length_nil, List.length_cons, List.nil_append, List.cons_append, Bool.false_eq_true, decide_eq_true_eq, Nat.zero_le, Int.reduceLT, Int.reduceLE, Int.reduceNeg, Nat.reduceLeDiff, Nat.reduceAdd]
    exact hQ _ _ (List.prefix_append _ _) ⟨_, rfl, .inr ⟨_, get_app_len _ _ _, .inl rfl⟩⟩
  simp only [k3, decide_false, Bool.not_false, if_true]
  try simp only [wp_bind, wp_pure, wp_seq', wp_ite, wp_and, wp_or, wp_setL, wp_allocList, wp_allocTuple, wp_alloc, wpE_get, wpE_mod, wpE_div, wpE_pow, wpE_iaddS, wpE_iaddI, wpE_addS, wp_add, wp_sub, wp_neg, wpE_lt, wpE_le, wpE_gt, wpE_ge, wpE_eq, wpE_ne, wpE_is, wpE_isnot, isP_bool, isP_obj, eqP_int, eqP_str, wpE_in, wpE_notin, wp_truthyB, wpE_truthyI, wpE_truthyN, wpE_truthyS, wp_isStr, wpE_lenS, wpE_lenG, wpE_range1, wpE_range2, wpE_iterS, wpE_iterG, wpE_max2, wpE_min2, if_true, if_false, String.reduceEq, reduceIte, true_and, and_true, List.length_nil, List.length_cons, List.nil_append, List.cons_append, Bool.false_eq_true, decide_eq_true_eq, Nat.zero_le, Int.reduceLT, Int.reduceLE, Int.reduceNeg, Nat.reduceLeDiff, Nat.reduceAdd]
  rw [wN_sAttr]
  refine ⟨Nat.le_of_ble_eq_true rfl, ?_⟩
  unfold rate_04_s5
  try simp only [wp_bind, wp_pure, wp_seq', wp_ite, wp_and, wp_or, wp_setL, wp_allocList, wp_allocTuple, wp_alloc, wpE_get, wpE_mod, wpE_div, wpE_pow, wpE_iaddS, wpE_iaddI, wpE_addS, wp_add, wp_sub, wp_neg, wpE_lt, wpE_le, wpE_gt, wpE_ge, wpE_eq, wpE_ne, wpE_is, wpE_isnot, isP_bool, isP_obj, eqP_int, eqP_str, wpE_in, wpE_notin, wp_truthyB, wpE_truthyI, wpE_truthyN, wpE_truthyS, wp_isStr, wpE_lenS, wpE_lenG, wpE_range1, wpE_range2, wpE_iterS, wpE_iterG, wpE_max2, wpE_min2, if_true, if_false, String.reduceEq, reduceIte, true_and, and_true, List.length_nil, List.length_cons, List.nil_append, List.cons_append, Bool.false_eq_true, decide_eq_true_eq, Nat.zero_le, Int.reduceLT, Int.reduceLE, Int.reduceNeg, Nat.reduceLeDiff, Nat.reduceAdd]
  by_cases k2 : k = 2
  · subst k2
    simp only [decide_true, Bool.not_true, Bool.false_eq_true, if_false]
    unfold rate_04_s6
    try simp only [wp_bind, wp_pure, wp_seq', wp_ite, wp_and, wp_or, wp_setL, wp_allocList, wp_allocTuple, wp_alloc, wpE_get, wpE_mod, wpE_div, wpE_pow, wpE_iaddS, wpE_iaddI, wpE_addS, wp_add, wp_sub, wp_neg, wpE_lt, wpE_le, wpE_gt, wpE_ge, wpE_eq, wpE_ne, wpE_is, wpE_isnot, isP_bool, isP_obj, eqP_int, eqP_str, wpE_in, wpE_notin, wp_truthyB, wpE_truthyI, wpE_truthyN, wpE_truthyS, wp_isStr, wpE_lenS, wpE_lenG, wpE_range1, wpE_range2, wpE_iterS, wpE_iterG, wpE_max2, wpE_min2, if_true, if_false, String.reduceEq, reduceIte, true_and, and_true, List.length_nil, List.length_cons, List.nil_append, List.cons_append, Bool.false_eq_true, decide_eq_true_eq, Nat.zero_le, Int.reduceLT, Int.reduceLE, Int.reduceNeg, Nat.reduceLeDiff, Nat.reduceAdd]
    exact hQ _ _ (List.prefix_append _ _) ⟨_, rfl, .inr ⟨_, get_app_len _ _ _, .inr ⟨3, rfl, hsm, hl3, rfl⟩⟩⟩
  simp only [k2, decide_false, Bool.not_false, if_true]
  try simp only [wp_bind, wp_pure, wp_seq', wp_ite, wp_and, wp_or, wp_setL, wp_allocList, wp_allocTuple, wp_alloc, wpE_get, wpE_mod, wpE_div, wpE_pow, wpE_iaddS, wpE_iaddI, wpE_addS, wp_add, wp_sub, wp_neg, wpE_lt, wpE_le, wpE_gt, wpE_ge, wpE_eq, wpE_ne, wpE_is, wpE_isnot, isP_bool, isP_obj, eqP_int, eqP_str, wpE_in, wpE_notin, wp_truthyB, wpE_truthyI, wpE_truthyN, wpE_truthyS, wp_isStr, wpE_lenS, wpE_lenG, wpE_range1, wpE_range2, wpE_iterS, wpE_iterG, wpE_max2, wpE_min2, if_true, if_false, String.reduceEq, reduceIte, true_and, and_true, List.length_nil, List.length_cons, List.nil_append, List.cons_append, Bool.false_eq_true, decide_eq_true_eq, Nat.zero_le, Int.reduceLT, Int.reduceLE, Int.reduceNeg, Nat.reduceLeDiff, Nat.reduceAdd]
  rw [wN_sAttr]
  refine ⟨Nat.le_of_ble_eq_true rfl, ?_⟩
  unfold rate_04_s6
  try simp only [wp_bind, wp_pure, wp_seq', wp_ite, wp_and, wp_or, wp_setL, wp_allocList, wp_allocTuple, wp_alloc, wpE_get, wpE_mod, wpE_div, wpE_pow, wpE_iaddS, wpE_iaddI, wpE_addS, wp_add, wp_sub, wp_neg, wpE_lt, wpE_le, wpE_gt, wpE_ge, wpE_eq, wpE_ne, wpE_is, wpE_isnot, isP_bool, isP_obj, eqP_int, eqP_str, wpE_in, wpE_notin, wp_truthyB, wpE_truthyI, wpE_truthyN, wpE_truthyS, wp_isStr, wpE_lenS, wpE_lenG, wpE_range1, wpE_range2, wpE_iterS, wpE_iterG, wpE_max2, wpE_min2, if_true, if_false, String.reduceEq, reduceIte, true_and, and_true, List.length_nil, List.length_cons, List.nil_append, List.cons_append, Bool.false_eq_true, decide_eq_true_eq, Nat.zero_le, Int.reduceLT, Int.reduceLE, Int.reduceNeg, Nat.reduceLeDiff, Nat.reduceAdd]
  have k1 : k = 1 := by
    simp only [List.mem_cons, List.not_mem_nil, or_false] at hk
    omega
  subst k1
  exact hQ _ _ (List.prefix_append _ _) ⟨_, _, rfl, get_app_len _ _ _, rfl, rfl, hsm, hsm5⟩
end
end Mine
set_option linter.unusedSimpArgs false
set_option linter.unusedVariables false
namespace Mine
def Plain (v : V) : Prop := (∃ l, v = .str l) ∨ ∃ i, v = .obj i
theorem dis_len : tDis.length ≤ 1000000 ∧ tAlx.length ≤ 1000000 := by decide +kernel
/-- the inner record -/
theorem inner_tx {T : List O} {i U R q : Nat} {ags : List (List Nat)} {vs : List V} (h0 : T[i]? = some (.inst [("useragents", .obj U), ("rulelines", .obj R), ("delay", .none), ("req_rate", .obj q)])) (hU : T[U]? = some (.list (ags.map V.str))) (hR : T[R]? = some (.list [])) (hq : T[q]? = some (.tuple vs))
    (hb : ((lnA ags ++ lnD none ++ lnR none).map (·.length)).sum + (lnA ags ++ lnD none ++ lnR none).length + ([] : List V).length ≤ 1000000) (hb2 : ∀ wl, allO [] = some wl → ((linesE ags none none wl).map (·.length)).sum + (linesE ags none none wl).length ≤ 1000000) : TXx 1 T (.obj i) (outc ags none .bad []) :=
  txx_ent (k := 0) (U := U) (R := R) (ags := ags) (dv := none) (rx := .bad) (rs := []) (ws := []) ⟨⟨_, .obj q, h0, rfl, rfl, rfl, rfl, q, rfl, .inl ⟨vs, hq⟩⟩, hU, hR, fun d e => by cases e⟩ .nil hb hb2
section
variable {loc : String → Option V} {ss : List O}
theorem wL_insert1 {i : Nat} {xs : List V} {v : V} {Q : V → St → Prop} (h : ss[i]? = some (.list xs)) (hl : xs.length ≤ 1000000) (hk : 1 ≤ xs.length) : wp (cInsert [.obj i, .int 1, v]) ⟨loc, ss⟩ Q = Q .none ⟨loc, ss.set i (.list (xs.take 1 ++ v :: xs.drop 1))⟩ := wL_insert (k := 1) h hl hk
theorem wp_rules {f : Int} (hf : f ∈ N4) {Q : V → St → Prop} (hQ : ∀ R rs ss', ss <+: ss' → ss'[R]? = some (.list rs) → Paired (TXx 1 ss') rs (wsN f) → rs.length ≤ 3 → (∀ v ∈ rs, Plain v) → Q (.obj R) ⟨loc, ss'⟩) : wp (callP ["kind"] rules04 [.int f]) ⟨loc, ss⟩ Q := by
  rw [wp_call rfl, loc1]
  unfold rules04 rules_04_s5
  simp only [wp_bind, wp_pure, wp_seq', wp_ite, wp_and, wp_or, wp_setL, wp_allocList, wp_allocTuple, wp_alloc, wpE_get, wpE_mod, wpE_div, wpE_pow, wpE_iaddS, wpE_iaddI, wpE_addS, wp_add, wp_sub, wp_neg, wpE_lt, wpE_le, wpE_gt, wpE_ge, wpE_eq, wpE_ne, wpE_is, wpE_isnot, isP_bool, isP_obj, eqP_int, eqP_str, wpE_in, wpE_notin, wp_truthyB, wpE_truthyI, wpE_truthyN, wpE_truthyS, wp_isStr, wpE_lenS, wpE_lenG, wpE_range1, wpE_range2, wpE_iterS, wpE_iterG, wpE_max2, wpE_min2, if_true, if_false, String.reduceEq, reduceIte, true_and, and_true, List.length_nil, List.length_cons, List.nil_append, List.cons_append, Bool.false_eq_true, decide_eq_true_eq, Nat.zero_le, Int.reduceLT, Int.reduceLE, Int.reduceNeg, Nat.reduceLeDiff, Nat.reduceAdd]
  by_cases f0 : f = 0
  · subst f0
    simp only [decide_true, if_true]
    exact hQ ss.length [] _ (List.prefix_append _ _) (get_app_len _ _ _) .nil (by simp) (fun v hv => by cases hv)
  simp only [f0, decide_false, Bool.false_eq_true, if_false]
  unfold rules_04_s6
  simp only [wp_bind, wp_pure, wp_seq', wp_ite, wp_and, wp_or, wp_setL, wp_allocList, wp_allocTuple, wp_alloc, wpE_get, wpE_mod, wpE_div, wpE_pow, wpE_iaddS, wpE_iaddI, wpE_addS, wp_add, wp_sub, wp_neg, wpE_lt, wpE_le, wpE_gt, wpE_ge, wpE_eq, wpE_ne, wpE_is, wpE_isnot, isP_bool, isP_obj, eqP_int, eqP_str, wpE_in, wpE_notin, wp_truthyB, wpE_truthyI, wpE_truthyN, wpE_truthyS, wp_isStr, wpE_lenS, wpE_lenG, wpE_range1, wpE_range2, wpE_iterS, wpE_iterG, wpE_max2, wpE_min2, if_true, if_false, String.reduceEq, reduceIte, true_and, and_true, List.length_nil, List.length_cons, List.nil_append, List.cons_append, Bool.false_eq_true, decide_eq_true_eq, Nat.zero_le, Int.reduceLT, Int.reduceLE, Int.reduceNeg, Nat.reduceLeDiff, Nat.reduceAdd]
  unfold rules_04_s7
  simp only [wp_bind, wp_pure, wp_seq', wp_ite, wp_and, wp_or, wp_setL, wp_allocList, wp_allocTuple, wp_alloc, wpE_get, wpE_mod, wpE_div, wpE_pow, wpE_iaddS, wpE_iaddI, wpE_addS, wp_add, wp_sub, wp_neg, wpE_lt, wpE_le, wpE_gt, wpE_ge, wpE_eq, wpE_ne, wpE_is, wpE_isnot, isP_bool, isP_obj, eqP_int, eqP_str, wpE_in, wpE_notin, wp_truthyB, wpE_truthyI, wpE_truthyN, wpE_truthyS, wp_isStr, wpE_lenS, wpE_lenG, wpE_range1, wpE_range2, wpE_iterS, wpE_iterG, wpE_max2, wpE_min2, if_true, if_false, String.reduceEq, reduceIte, true_and, and_true, List.length_nil, List.length_cons, List.nil_append, List.cons_append, Bool.false_eq_true, decide_eq_true_eq, Nat.zero_le, Int.reduceLT, Int.reduceLE, Int.reduceNeg, Nat.reduceLeDiff, Nat.reduceAdd]
  by_cases f1 : f = 1
  · subst f1
    simp only [Int.reduceLT, decide_false, Bool.false_eq_true, if_false]
    unfold rules_04_s8
    simp only [wp_bind, wp_pure, wp_seq', wp_ite, wp_and, wp_or, wp_setL, wp_allocList, wp_allocTuple, wp_alloc, wpE_get, wpE_mod, wpE_div, wpE_pow, wpE_iaddS, wpE_iaddI, wpE_addS, wp_add, wp_sub, wp_neg, wpE_lt, wpE_le, wpE_gt, wpE_ge, wpE_eq, wpE_ne, wpE_is, wpE_isnot, isP_bool, isP_obj, eqP_int, eqP_str, wpE_in, wpE_notin, wp_truthyB, wpE_truthyI, wpE_truthyN, wpE_truthyS, wp_isStr, wpE_lenS, wpE_lenG, wpE_range1, wpE_range2, wpE_iterS, wpE_iterG, wpE_max2, wpE_min2, if_true, if_false, String.reduceEq, reduceIte, true_and, and_true, List.length_nil, List.length_cons, List.nil_append, List.cons_append, Bool.false_eq_true, decide_eq_true_eq, Nat.zero_le, Int.reduceLT, Int.reduceLE, Int.reduceNeg, Nat.reduceLeDiff, Nat.reduceAdd]
    refine hQ ss.length _ _ (List.prefix_append _ _) (get_app_len _ _ _) (.cons (txx_str dis_len.1) (.cons (txx_str dis_len.2) .nil)) (by simp) (fun v hv => ?_)
    simp only [List.mem_cons, List.not_mem_nil, or_false] at hv
    rcases hv with rfl | rfl <;> exact .inl ⟨_, rfl⟩
  have fg : 1 < f := by
    simp only [List.mem_cons, List.not_mem_nil, or_false] at hf
    omega
  simp only [fg, decide_true, if_true]
  unfold rules_04_s1
  simp only [wp_bind, wp_pure, wp_seq', wp_ite, wp_and, wp_or, wp_setL, wp_allocList, wp_allocTuple, wp_alloc, wpE_get, wpE_mod, wpE_div, wpE_pow, wpE_iaddS, wpE_iaddI, wpE_addS, wp_add, wp_sub, wp_neg, wpE_lt, wpE_le, wpE_gt, wpE_ge, wpE_eq, wpE_ne, wpE_is, wpE_isnot, isP_bool, isP_obj, eqP_int, eqP_str, wpE_in, wpE_notin, wp_truthyB, wpE_truthyI, wpE_truthyN, wpE_truthyS, wp_isStr, wpE_lenS, wpE_lenG, wpE_range1, wpE_range2, wpE_iterS, wpE_iterG, wpE_max2, wpE_min2, if_true, if_false, String.reduceEq, reduceIte, true_and, and_true, List.length_nil, List.length_cons, List.nil_append, List.cons_append, Bool.false_eq_true, decide_eq_true_eq, Nat.zero_le, Int.reduceLT, Int.reduceLE, Int.reduceNeg, Nat.reduceLeDiff, Nat.reduceAdd, wE_entry]
  unfold rules_04_s2
  simp only [wp_bind, wp_pure, wp_seq', wp_ite, wp_and, wp_or, wp_setL, wp_allocList, wp_allocTuple, wp_alloc, wpE_get, wpE_mod, wpE_div, wpE_pow, wpE_iaddS, wpE_iaddI, wpE_addS, wp_add, wp_sub, wp_neg, wpE_lt, wpE_le, wpE_gt, wpE_ge, wpE_eq, wpE_ne, wpE_is, wpE_isnot, isP_bool, isP_obj, eqP_int, eqP_str, wpE_in, wpE_notin, wp_truthyB, wpE_truthyI, wpE_truthyN, wpE_truthyS, wp_isStr, wpE_lenS, wpE_lenG, wpE_range1, wpE_range2, wpE_iterS, wpE_iterG, wpE_max2, wpE_min2, if_true, if_false, String.reduceEq, reduceIte, true_and, and_true, List.length_nil, List.length_cons, List.nil_append, List.cons_append, Bool.false_eq_true, decide_eq_true_eq, Nat.zero_le, Int.reduceLT, Int.reduceLE, Int.reduceNeg, Nat.reduceLeDiff, Nat.reduceAdd]
  simp only [List.append_assoc, List.cons_append, List.nil_append, List.length_append, List.length_cons, List.length_nil, Nat.zero_add, Nat.add_assoc, Nat.reduceAdd]
  rw [wL_sAttr (i := ss.length + 1) (get_k rfl) (Nat.le_of_ble_eq_true rfl), set_k rfl]
  simp only [List.set_cons_succ, List.set_cons_zero, putA, String.reduceEq, if_false, if_true]
  unfold rules_04_s3
  simp only [wp_bind, wp_pure, wp_seq', wp_ite, wp_and, wp_or, wp_setL, wp_allocList, wp_allocTuple, wp_alloc, wpE_get, wpE_mod, wpE_div, wpE_pow, wpE_iaddS, wpE_iaddI, wpE_addS, wp_add, wp_sub, wp_neg, wpE_lt, wpE_le, wpE_gt, wpE_ge, wpE_eq, wpE_ne, wpE_is, wpE_isnot, isP_bool, isP_obj, eqP_int, eqP_str, wpE_in, wpE_notin, wp_truthyB, wpE_truthyI, wpE_truthyN, wpE_truthyS, wp_isStr, wpE_lenS, wpE_lenG, wpE_range1, wpE_range2, wpE_iterS, wpE_iterG, wpE_max2, wpE_min2, if_true, if_false, String.reduceEq, reduceIte, true_and, and_true, List.length_nil, List.length_cons, List.nil_append, List.cons_append, Bool.false_eq_true, decide_eq_true_eq, Nat.zero_le, Int.reduceLT, Int.reduceLE, Int.reduceNeg, Nat.reduceLeDiff, Nat.reduceAdd]
  unfold rules_04_s4 rules_04_s8
  by_cases f2 : f = 2
  · subst f2
    simp only [decide_true, if_true]
    rw [wL_gAttr (i := ss.length + 1) (n := "useragents") (v := .obj (ss.length + 2)) (get_k rfl) rfl (by intro u e; cases e)]
    rw [wL_isList (i := ss.length + 2) (get_k rfl)]
    rw [wL_append (i := ss.length + 2) (get_k rfl) (by simp), set_k rfl]
    simp only [List.set_cons_succ, List.set_cons_zero, List.nil_append, wp_bind, wp_pure, wp_seq', wp_ite, wp_and, wp_or, wp_setL, wp_allocList, wp_allocTuple, wp_alloc, wpE_get, wpE_mod, wpE_div, wpE_pow, wpE_iaddS, wpE_iaddI, wpE_addS, wp_add, wp_sub, wp_neg, wpE_lt, wpE_le, wpE_gt, wpE_ge, wpE_eq, wpE_ne, wpE_is, wpE_isnot, isP_bool, isP_obj, eqP_int, eqP_str, wpE_in, wpE_notin, wp_truthyB, wpE_truthyI, wpE_truthyN, wpE_truthyS, wp_isStr, wpE_lenS, wpE_lenG, wpE_range1, wpE_range2, wpE_iterS, wpE_iterG, wpE_max2, wpE_min2, if_true, if_false, String.reduceEq, reduceIte, true_and, and_true, List.length_nil, List.length_cons, List.nil_append, List.cons_append, Bool.false_eq_true, decide_eq_true_eq, Nat.zero_le, Int.reduceLT, Int.reduceLE, Int.reduceNeg, Nat.reduceLeDiff, Nat.reduceAdd]
    rw [wL_isList (i := ss.length) (get_k (k := 0) rfl)]
    simp only [wp_bind, wp_pure, wp_seq', wp_ite, wp_and, wp_or, wp_setL, wp_allocList, wp_allocTuple, wp_alloc, wpE_get, wpE_mod, wpE_div, wpE_pow, wpE_iaddS, wpE_iaddI, wpE_addS, wp_add, wp_sub, wp_neg, wpE_lt, wpE_le, wpE_gt, wpE_ge, wpE_eq, wpE_ne, wpE_is, wpE_isnot, isP_bool, isP_obj, eqP_int, eqP_str, wpE_in, wpE_notin, wp_truthyB, wpE_truthyI, wpE_truthyN, wpE_truthyS, wp_isStr, wpE_lenS, wpE_lenG, wpE_range1, wpE_range2, wpE_iterS, wpE_iterG, wpE_max2, wpE_min2, if_true, if_false, String.reduceEq, reduceIte, true_and, and_true, List.length_nil, List.length_cons, List.nil_append, List.cons_append, Bool.false_eq_true, decide_eq_true_eq, Nat.zero_le, Int.reduceLT, Int.reduceLE, Int.reduceNeg, Nat.reduceLeDiff, Nat.reduceAdd]
    rw [wL_insert1 (i := ss.length) (get_k (k := 0) rfl) (by simp) (by simp), set_app_len]
    simp only [List.set_cons_succ, List.set_cons_zero, wp_bind, wp_pure, wp_seq', wp_ite, wp_and, wp_or, wp_setL, wp_allocList, wp_allocTuple, wp_alloc, wpE_get, wpE_mod, wpE_div, wpE_pow, wpE_iaddS, wpE_iaddI, wpE_addS, wp_add, wp_sub, wp_neg, wpE_lt, wpE_le, wpE_gt, wpE_ge, wpE_eq, wpE_ne, wpE_is, wpE_isnot, isP_bool, isP_obj, eqP_int, eqP_str, wpE_in, wpE_notin, wp_truthyB, wpE_truthyI, wpE_truthyN, wpE_truthyS, wp_isStr, wpE_lenS, wpE_lenG, wpE_range1, wpE_range2, wpE_iterS, wpE_iterG, wpE_max2, wpE_min2, if_true, if_false, String.reduceEq, reduceIte, true_and, and_true, List.length_nil, List.length_cons, List.nil_append, List.cons_append, Bool.false_eq_true, decide_eq_true_eq, Nat.zero_le, Int.reduceLT, Int.reduceLE, Int.reduceNeg, Nat.reduceLeDiff, Nat.reduceAdd]
    refine hQ ss.length _ _ (List.prefix_append _ _) (get_app_len _ _ _) (.cons (txx_str dis_len.1) (.cons ?_ (.cons (txx_str dis_len.2) .nil))) (by simp) (fun v hv => ?_)
    · show TXx 1 _ _ (outc [cps "kiwi"] none .bad [])
      refine inner_tx (U := ss.length + 2) (R := ss.length + 3) (q := ss.length + 4) (ags := [cps "kiwi"]) (vs := [.int 1, .int 2]) ?_ ?_ ?_ ?_ (by decide +kernel) (fun wl e => by cases e; decide +kernel)
      · exact get_k (k := 1) rfl
      · exact get_k (k := 2) rfl
      · exact get_k (k := 3) rfl
      · exact get_k (k := 4) rfl
    · simp only [List.take, List.drop, List.cons_append, List.nil_append, List.mem_cons, List.not_mem_nil, or_false] at hv
      rcases hv with rfl | rfl | rfl
      · exact .inl ⟨_, rfl⟩
      · exact .inr ⟨_, rfl⟩
      · exact .inl ⟨_, rfl⟩
  · have f3 : f = 3 := by
      simp only [List.mem_cons, List.not_mem_nil, or_false] at hf
      omega
    subst f3
    simp only [Int.reduceEq, decide_false, Bool.false_eq_true, if_false, wp_bind, wp_pure, wp_seq', wp_ite, wp_and, wp_or, wp_setL, wp_allocList, wp_allocTuple, wp_alloc, wpE_get, wpE_mod, wpE_div, wpE_pow, wpE_iaddS, wpE_iaddI, wpE_addS, wp_add, wp_sub, wp_neg, wpE_lt, wpE_le, wpE_gt, wpE_ge, wpE_eq, wpE_ne, wpE_is, wpE_isnot, isP_bool, isP_obj, eqP_int, eqP_str, wpE_in, wpE_notin, wp_truthyB, wpE_truthyI, wpE_truthyN, wpE_truthyS, wp_isStr, wpE_lenS, wpE_lenG, wpE_range1, wpE_range2, wpE_iterS, wpE_iterG, wpE_max2, wpE_min2, if_true, if_false, String.reduceEq, reduceIte, true_and, and_true, List.length_nil, List.length_cons, List.nil_append, List.cons_append, Bool.false_eq_true, decide_eq_true_eq, Nat.zero_le, Int.reduceLT, Int.reduceLE, Int.reduceNeg, Nat.reduceLeDiff, Nat.reduceAdd]
    rw [wL_isList (i := ss.length) (get_k (k := 0) rfl)]
    simp only [wp_bind, wp_pure, wp_seq', wp_ite, wp_and, wp_or, wp_setL, wp_allocList, wp_allocTuple, wp_alloc, wpE_get, wpE_mod, wpE_div, wpE_pow, wpE_iaddS, wpE_iaddI, wpE_addS, wp_add, wp_sub, wp_neg, wpE_lt, wpE_le, wpE_gt, wpE_ge, wpE_eq, wpE_ne, wpE_is, wpE_isnot, isP_bool, isP_obj, eqP_int, eqP_str, wpE_in, wpE_notin, wp_truthyB, wpE_truthyI, wpE_truthyN, wpE_truthyS, wp_isStr, wpE_lenS, wpE_lenG, wpE_range1, wpE_range2, wpE_iterS, wpE_iterG, wpE_max2, wpE_min2, if_true, if_false, String.reduceEq, reduceIte, true_and, and_true, List.length_nil, List.length_cons, List.nil_append, List.cons_append, Bool.false_eq_true, decide_eq_true_eq, Nat.zero_le, Int.reduceLT, Int.reduceLE, Int.reduceNeg, Nat.reduceLeDiff, Nat.reduceAdd]
    rw [wL_insert1 (i := ss.length) (get_k (k := 0) rfl) (by simp) (by simp), set_app_len]
    simp only [List.set_cons_succ, List.set_cons_zero, wp_bind, wp_pure, wp_seq', wp_ite, wp_and, wp_or, wp_setL, wp_allocList, wp_allocTuple, wp_alloc, wpE_get, wpE_mod, wpE_div, wpE_pow, wpE_iaddS, wpE_iaddI, wpE_addS, wp_add, wp_sub, wp_neg, wpE_lt, wpE_le, wpE_gt, wpE_ge, wpE_eq, wpE_ne, wpE_is, wpE_isnot, isP_bool, isP_obj, eqP_int, eqP_str, wpE_in, wpE_notin, wp_truthyB, wpE_truthyI, wpE_truthyN, wpE_truthyS, wp_isStr, wpE_lenS, wpE_lenG, wpE_range1, wpE_range2, wpE_iterS, wpE_iterG, wpE_max2, wpE_min2, if_true, if_false, String.reduceEq, reduceIte, true_and, and_true, List.length_nil, List.length_cons, List.nil_append, List.cons_append, Bool.false_eq_true, decide_eq_true_eq, Nat.zero_le, Int.reduceLT, Int.reduceLE, Int.reduceNeg, Nat.reduceLeDiff, Nat.reduceAdd]
    refine hQ ss.length _ _ (List.prefix_append _ _) (get_app_len _ _ _) (.cons (txx_str dis_len.1) (.cons ?_ (.cons (txx_str dis_len.2) .nil))) (by simp) (fun v hv => ?_)
    · show TXx 1 _ _ (outc [] none .bad [])
      refine inner_tx (U := ss.length + 2) (R := ss.length + 3) (q := ss.length + 4) (ags := []) (vs := [.int 1, .int 2]) ?_ ?_ ?_ ?_ (by decide +kernel) (fun wl e => by cases e; decide +kernel)
      · exact get_k (k := 1) rfl
      · exact get_k (k := 2) rfl
      · exact get_k (k := 3) rfl
      · exact get_k (k := 4) rfl
    · simp only [List.take, List.drop, List.cons_append, List.nil_append, List.mem_cons, List.not_mem_nil, or_false] at hv
      rcases hv with rfl | rfl | rfl
      · exact .inl ⟨_, rfl⟩
      · exact .inr ⟨_, rfl⟩
      · exact .inl ⟨_, rfl⟩
end
end Mine
set_option linter.unusedSimpArgs false
set_option linter.unusedVariables false
namespace Mine
abbrev E4 (U R : Nat) (late : Bool) (v : V) : List (String × V) := [("useragents", .obj U), ("rulelines", .obj R), ("delay", delV (dvN late)), ("req_rate", v)]
structure L4 (sl : String → Option V) (n k f : Int) (late : Bool) (i U R B : Nat) (v : V) : Prop where
  l1 : sl "one" = some (.obj i)
  l2 : sl "agents" = some (.obj U)
  l3 : sl "rules" = some (.obj R)
  l4 : sl "rate" = some v
  l5 : sl "before" = some (.obj B)
  l6 : sl "late" = some (.bool late)
  l7 : sl "named" = some (.int n)
  l8 : sl "kind" = some (.int k)
  l9 : sl "filled" = some (.int f)
  lA : sl "front" = some (.str (frontN n late))
structure O4 (T : List O) (n k f : Int) (late : Bool) (i U R B : Nat) (v : V) (rs : List V) : Prop where
  o1 : T[i]? = some (.inst (E4 U R late v))
  o2 : T[U]? = some (.list ((agsN n).map V.str))
  o3 : T[R]? = some (.list rs)
  o4 : T[B]? = some (.list rs)
  o5 : rateX T (rsN k) v
  o6 : Paired (TXx 1 T) rs (wsN f)
  o7 : rs.length ≤ 3
  o8 : ∀ v ∈ rs, Plain v
theorem paired_pre {T T' : List O} (p : T <+: T') : ∀ {rs : List V} {ws : List (Option (List Nat))}, Paired (TXx 1 T) rs ws → Paired (TXx 1 T') rs ws
  | _, _, .nil => .nil
  | _, _, .cons h t => .cons (h.pre p) (paired_pre p t)
theorem O4.pre {T T' : List O} {n k f : Int} {late : Bool} {i U R B : Nat} {v : V} {rs : List V} (h : O4 T n k f late i U R B v rs) (p : T <+: T') : O4 T' n k f late i U R B v rs :=
  ⟨get_pre p h.o1, get_pre p h.o2, get_pre p h.o3, get_pre p h.o4, h.o5.pre p, paired_pre p h.o6, h.o7, h.o8⟩
theorem O4.tx {T : List O} {n k f : Int} {late : Bool} {i U R B : Nat} {v : V} {rs : List V} (h : O4 T n k f late i U R B v rs) (hn : n ∈ N3) (hk : k ∈ N5) (hf : f ∈ N4) : TXx 2 T (.obj i) (dueN n k f late) := by
  rw [← due_eq n hn k hk f hf late]
  have b1 := bound1 n hn k hk late
  have b3 := h.o7
  exact txx_ent (k := 1) (U := U) (R := R) ⟨⟨_, v, h.o1, rfl, rfl, rfl, rfl, h.o5⟩, h.o2, h.o3, dv_small late⟩ h.o6 (by omega) (bd2_of (bound2 n hn k hk f hf late))
theorem eqP_outV (st : St) (w : Option (List Nat)) : eqP st (outV w) (outV w) = some true := by
  cases w with
  | none => rfl
  | some t => show eqP st (.str t) (.str t) = _; rw [eqP_str]; simp
theorem rate_same {T : List O} {r : RS} {v : V} (h : rateX T r v) : isP v v = some true ∧ ∀ u, v ≠ .glob u := by
  cases r with
  | non => have h : v = .none := h; subst h; exact ⟨rfl, fun u e => by cases e⟩
  | whole a b => obtain ⟨q, bs, rfl, _⟩ := h; exact ⟨isP_obj q, fun u e => by cases e⟩
  | bad => obtain ⟨q, rfl, _⟩ := h; exact ⟨isP_obj q, fun u e => by cases e⟩
theorem eqsE_plain (st : St) : ∀ {rs : List V}, (∀ v ∈ rs, Plain v) → eqsE st rs rs = some true
  | [], _ => rfl
  | v :: r, h => by
    have h1 : eqE st v v = some true := by
      rcases h v (.head _) with ⟨l, rfl⟩ | ⟨i, rfl⟩
      · show eqP st (.str l) (.str l) = _
        rw [eqP_str]; simp
      · exact eqE_same st i
    unfold eqsE
    rw [h1, eqsE_plain st fun v hv => h v (.tail _ hv)]
    rfl
theorem eqX_plain {loc : String → Option V} {sto : List O} {i j : Nat} {rs : List V} (h1 : sto[i]? = some (.list rs)) (h2 : sto[j]? = some (.list rs)) (hp : ∀ v ∈ rs, Plain v) : eqX ⟨loc, sto⟩ (.obj i) (.obj j) = some true := by
  unfold eqX
  simp only [h1, h2, if_true]
  exact eqsE_plain _ hp
section
variable {sl : String → Option V} {ss : List O} {n k f : Int} {late : Bool} {i U R B : Nat} {v : V} {rs : List V}
theorem t4_due (hn : n ∈ N3) (hk : k ∈ N5) (hf : f ∈ N4) (hl : L4 sl n k f late i U R B v) {Q : Fl → St → Prop} (hQ : ∀ sl' ss', (∀ m, m ≠ "due" → sl' m = sl m) → sl' "due" = some (outV (dueN n k f late)) → ss <+: ss' → Q .next ⟨sl', ss'⟩) : wp l04s22 ⟨sl, ss⟩ Q := by
  obtain ⟨l1, l2, l3, l4, l5, l6, l7, l8, l9, lA⟩ := hl
  have fl := (front_len n hn late).2
  unfold l04s22
  simp only [wp_bind, wp_pure, wp_seq', wp_ite, wp_and, wp_or, wp_setL, wp_allocList, wp_allocTuple, wp_alloc, wpE_get, wpE_mod, wpE_div, wpE_pow, wpE_iaddS, wpE_iaddI, wpE_addS, wp_add, wp_sub, wp_neg, wpE_lt, wpE_le, wpE_gt, wpE_ge, wpE_eq, wpE_ne, wpE_is, wpE_isnot, isP_bool, isP_obj, eqP_int, eqP_str, wpE_in, wpE_notin, wp_truthyB, wpE_truthyI, wpE_truthyN, wpE_truthyS, wp_isStr, wpE_lenS, wpE_lenG, wpE_range1, wpE_range2, wpE_iterS, wpE_iterG, wpE_max2, wpE_min2, if_true, if_false, String.reduceEq, reduceIte, true_and, and_true, List.length_nil, List.length_cons, List.nil_append, List.cons_append, Bool.false_eq_true, decide_eq_true_eq, Nat.zero_le, Int.reduceLT, Int.reduceLE, Int.reduceNeg, Nat.reduceLeDiff, Nat.reduceAdd, l7, l8, l9]
  by_cases h0 : n = 0
  · simp only [h0, decide_true, if_true]
    refine hQ _ _ (fun m hm => by simp [hm]) ?_ (List.prefix_refl _)
    unfold dueN
    simp [h0, outV]
  simp only [h0, decide_false, if_false]
  by_cases h1 : 1 < k
  · simp only [h1, decide_true, if_true]
    refine hQ _ _ (fun m hm => by simp [hm]) ?_ (List.prefix_refl _)
    unfold dueN
    simp [h0, h1, outV]
  simp only [h1, decide_false, if_false]
  by_cases h2 : f = 2
  · simp only [h2, decide_true, if_true]
    refine hQ _ _ (fun m hm => by simp [hm]) ?_ (List.prefix_refl _)
    unfold dueN
    simp [h0, h2, outV]
  simp only [h2, decide_false, if_false]
  have hD : dueN n k f late = some (frontN n late ++ rateT k ++ tailT f) := by unfold dueN; rw [if_neg h0, if_neg (by omega)]
  unfold l04s1
  simp only [wp_bind, wp_pure, wp_seq', wp_ite, wp_and, wp_or, wp_setL, wp_allocList, wp_allocTuple, wp_alloc, wpE_get, wpE_mod, wpE_div, wpE_pow, wpE_iaddS, wpE_iaddI, wpE_addS, wp_add, wp_sub, wp_neg, wpE_lt, wpE_le, wpE_gt, wpE_ge, wpE_eq, wpE_ne, wpE_is, wpE_isnot, isP_bool, isP_obj, eqP_int, eqP_str, wpE_in, wpE_notin, wp_truthyB, wpE_truthyI, wpE_truthyN, wpE_truthyS, wp_isStr, wpE_lenS, wpE_lenG, wpE_range1, wpE_range2, wpE_iterS, wpE_iterG, wpE_max2, wpE_min2, if_true, if_false, String.reduceEq, reduceIte, true_and, and_true, List.length_nil, List.length_cons, List.nil_append, List.cons_append, Bool.false_eq_true, decide_eq_true_eq, Nat.zero_le, Int.reduceLT, Int.reduceLE, Int.reduceNeg, Nat.reduceLeDiff, Nat.reduceAdd, lA, l8]
  have i1 : ∃ c : Nat, k = (c : Int) ∧ [V.str (cps ""), V.str (cps "Request-rate: 3/5\n")][c]? = some (.str (rateT k)) ∧ (rateT k).length ≤ 100 := by
    simp only [List.mem_cons, List.not_mem_nil, or_false] at hk
    have : k = 0 ∨ k = 1 := by omega
    rcases this with rfl | rfl
    · exact ⟨0, rfl, rfl, by decide +kernel⟩
    · exact ⟨1, rfl, rfl, by decide +kernel⟩
  have i2 : ∃ c : Nat, f = (c : Int) ∧ [V.str (cps "Allow:"), V.str (cps "Disallow: /\nAllow: /x"), V.str (cps ""), V.str (cps "Disallow: /\n\nAllow: /x")][c]? = some (.str (tailT f)) ∧ (tailT f).length ≤ 100 := by
    simp only [List.mem_cons, List.not_mem_nil, or_false] at hf
    rcases hf with rfl | rfl | rfl | rfl
    · exact ⟨0, rfl, rfl, by decide +kernel⟩
    · exact ⟨1, rfl, rfl, by decide +kernel⟩
    · exact absurd rfl h2
    · exact ⟨3, rfl, rfl, by decide +kernel⟩
  obtain ⟨c1, a1, a2, a3⟩ := i1
  obtain ⟨c2, b1, b2, b3⟩ := i2
  rw [wL_itemI a1 (get_app_len _ _ _) (by simp) a2]
  simp only [wp_bind, wp_pure, wp_seq', wp_ite, wp_and, wp_or, wp_setL, wp_allocList, wp_allocTuple, wp_alloc, wpE_get, wpE_mod, wpE_div, wpE_pow, wpE_iaddS, wpE_iaddI, wpE_addS, wp_add, wp_sub, wp_neg, wpE_lt, wpE_le, wpE_gt, wpE_ge, wpE_eq, wpE_ne, wpE_is, wpE_isnot, isP_bool, isP_obj, eqP_int, eqP_str, wpE_in, wpE_notin, wp_truthyB, wpE_truthyI, wpE_truthyN, wpE_truthyS, wp_isStr, wpE_lenS, wpE_lenG, wpE_range1, wpE_range2, wpE_iterS, wpE_iterG, wpE_max2, wpE_min2, if_true, if_false, String.reduceEq, reduceIte, true_and, and_true, List.length_nil, List.length_cons, List.nil_append, List.cons_append, Bool.false_eq_true, decide_eq_true_eq, Nat.zero_le, Int.reduceLT, Int.reduceLE, Int.reduceNeg, Nat.reduceLeDiff, Nat.reduceAdd]
  refine ⟨by omega, ?_⟩
  unfold l04s2
  simp only [wp_bind, wp_pure, wp_seq', wp_ite, wp_and, wp_or, wp_setL, wp_allocList, wp_allocTuple, wp_alloc, wpE_get, wpE_mod, wpE_div, wpE_pow, wpE_iaddS, wpE_iaddI, wpE_addS, wp_add, wp_sub, wp_neg, wpE_lt, wpE_le, wpE_gt, wpE_ge, wpE_eq, wpE_ne, wpE_is, wpE_isnot, isP_bool, isP_obj, eqP_int, eqP_str, wpE_in, wpE_notin, wp_truthyB, wpE_truthyI, wpE_truthyN, wpE_truthyS, wp_isStr, wpE_lenS, wpE_lenG, wpE_range1, wpE_range2, wpE_iterS, wpE_iterG, wpE_max2, wpE_min2, if_true, if_false, String.reduceEq, reduceIte, true_and, and_true, List.length_nil, List.length_cons, List.nil_append, List.cons_append, Bool.false_eq_true, decide_eq_true_eq, Nat.zero_le, Int.reduceLT, Int.reduceLE, Int.reduceNeg, Nat.reduceLeDiff, Nat.reduceAdd, l9]
  rw [wL_itemI b1 (get_app_len _ _ _) (by simp) b2]
  simp only [wp_bind, wp_pure, wp_seq', wp_ite, wp_and, wp_or, wp_setL, wp_allocList, wp_allocTuple, wp_alloc, wpE_get, wpE_mod, wpE_div, wpE_pow, wpE_iaddS, wpE_iaddI, wpE_addS, wp_add, wp_sub, wp_neg, wpE_lt, wpE_le, wpE_gt, wpE_ge, wpE_eq, wpE_ne, wpE_is, wpE_isnot, isP_bool, isP_obj, eqP_int, eqP_str, wpE_in, wpE_notin, wp_truthyB, wpE_truthyI, wpE_truthyN, wpE_truthyS, wp_isStr, wpE_lenS, wpE_lenG, wpE_range1, wpE_range2, wpE_iterS, wpE_iterG, wpE_max2, wpE_min2, if_true, if_false, String.reduceEq, reduceIte, true_and, and_true, List.length_nil, List.length_cons, List.nil_append, List.cons_append, Bool.false_eq_true, decide_eq_true_eq, Nat.zero_le, Int.reduceLT, Int.reduceLE, Int.reduceNeg, Nat.reduceLeDiff, Nat.reduceAdd]
  refine ⟨by rw [List.length_append]; omega, ?_⟩
  refine hQ _ _ (fun m hm => by simp [hm]) ?_ ((List.prefix_append _ _).trans (List.prefix_append _ _))
  rw [hD]
  simp [outV]
/-- one check -/
theorem t4_chk (hn : n ∈ N3) (hk : k ∈ N5) (hf : f ∈ N4) (hl : L4 sl n k f late i U R B v) (hd : sl "due" = some (outV (dueN n k f late))) (ho : O4 ss n k f late i U R B v rs) {Q : Fl → St → Prop} (hQ : ∀ ss', ss <+: ss' → Q .next ⟨sl, ss'⟩) : wp l04f6 ⟨sl, ss⟩ Q := by
  obtain ⟨l1, l2, l3, l4, l5, l6, l7, l8, l9, lA⟩ := hl
  unfold l04f6 l04s3
  simp only [wp_bind, wp_pure, wp_seq', wp_ite, wp_and, wp_or, wp_setL, wp_allocList, wp_allocTuple, wp_alloc, wpE_get, wpE_mod, wpE_div, wpE_pow, wpE_iaddS, wpE_iaddI, wpE_addS, wp_add, wp_sub, wp_neg, wpE_lt, wpE_le, wpE_gt, wpE_ge, wpE_eq, wpE_ne, wpE_is, wpE_isnot, isP_bool, isP_obj, eqP_int, eqP_str, wpE_in, wpE_notin, wp_truthyB, wpE_truthyI, wpE_truthyN, wpE_truthyS, wp_isStr, wpE_lenS, wpE_lenG, wpE_range1, wpE_range2, wpE_iterS, wpE_iterG, wpE_max2, wpE_min2, if_true, if_false, String.reduceEq, reduceIte, true_and, and_true, List.length_nil, List.length_cons, List.nil_append, List.cons_append, Bool.false_eq_true, decide_eq_true_eq, Nat.zero_le, Int.reduceLT, Int.reduceLE, Int.reduceNeg, Nat.reduceLeDiff, Nat.reduceAdd, l1]
  refine wp_text (ho.tx hn hk hf) fun ss' p => ?_
  have ho' := ho.pre p
  obtain ⟨o1, o2, o3, o4, o5, o6, o7, o8⟩ := ho'
  simp only [hd, eqP_outV, wp_bind, wp_pure, wp_seq', wp_ite, wp_and, wp_or, wp_setL, wp_allocList, wp_allocTuple, wp_alloc, wpE_get, wpE_mod, wpE_div, wpE_pow, wpE_iaddS, wpE_iaddI, wpE_addS, wp_add, wp_sub, wp_neg, wpE_lt, wpE_le, wpE_gt, wpE_ge, wpE_eq, wpE_ne, wpE_is, wpE_isnot, isP_bool, isP_obj, eqP_int, eqP_str, wpE_in, wpE_notin, wp_truthyB, wpE_truthyI, wpE_truthyN, wpE_truthyS, wp_isStr, wpE_lenS, wpE_lenG, wpE_range1, wpE_range2, wpE_iterS, wpE_iterG, wpE_max2, wpE_min2, if_true, if_false, String.reduceEq, reduceIte, true_and, and_true, List.length_nil, List.length_cons, List.nil_append, List.cons_append, Bool.false_eq_true, decide_eq_true_eq, Nat.zero_le, Int.reduceLT, Int.reduceLE, Int.reduceNeg, Nat.reduceLeDiff, Nat.reduceAdd, Bool.not_true]
  unfold l04s4
  obtain ⟨r1, r2⟩ := rate_same o5
  simp only [wp_bind, wp_pure, wp_seq', wp_ite, wp_and, wp_or, wp_setL, wp_allocList, wp_allocTuple, wp_alloc, wpE_get, wpE_mod, wpE_div, wpE_pow, wpE_iaddS, wpE_iaddI, wpE_addS, wp_add, wp_sub, wp_neg, wpE_lt, wpE_le, wpE_gt, wpE_ge, wpE_eq, wpE_ne, wpE_is, wpE_isnot, isP_bool, isP_obj, eqP_int, eqP_str, wpE_in, wpE_notin, wp_truthyB, wpE_truthyI, wpE_truthyN, wpE_truthyS, wp_isStr, wpE_lenS, wpE_lenG, wpE_range1, wpE_range2, wpE_iterS, wpE_iterG, wpE_max2, wpE_min2, if_true, if_false, String.reduceEq, reduceIte, true_and, and_true, List.length_nil, List.length_cons, List.nil_append, List.cons_append, Bool.false_eq_true, decide_eq_true_eq, Nat.zero_le, Int.reduceLT, Int.reduceLE, Int.reduceNeg, Nat.reduceLeDiff, Nat.reduceAdd, l1, l2, l3, l4, wL_gAttr (n := "useragents") (v := .obj U) o1 rfl (by intro u e; cases e), wL_gAttr (n := "rulelines") (v := .obj R) o1 rfl (by intro u e; cases e), wL_gAttr (n := "req_rate") (v := v) o1 rfl r2, r1, Bool.not_true]
  unfold l04s5
  have hdg : ∀ u, delV (dvN late) ≠ .glob u := by cases late <;> intro u e <;> cases e
  simp only [wp_bind, wp_pure, wp_seq', wp_ite, wp_and, wp_or, wp_setL, wp_allocList, wp_allocTuple, wp_alloc, wpE_get, wpE_mod, wpE_div, wpE_pow, wpE_iaddS, wpE_iaddI, wpE_addS, wp_add, wp_sub, wp_neg, wpE_lt, wpE_le, wpE_gt, wpE_ge, wpE_eq, wpE_ne, wpE_is, wpE_isnot, isP_bool, isP_obj, eqP_int, eqP_str, wpE_in, wpE_notin, wp_truthyB, wpE_truthyI, wpE_truthyN, wpE_truthyS, wp_isStr, wpE_lenS, wpE_lenG, wpE_range1, wpE_range2, wpE_iterS, wpE_iterG, wpE_max2, wpE_min2, if_true, if_false, String.reduceEq, reduceIte, true_and, and_true, List.length_nil, List.length_cons, List.nil_append, List.cons_append, Bool.false_eq_true, decide_eq_true_eq, Nat.zero_le, Int.reduceLT, Int.reduceLE, Int.reduceNeg, Nat.reduceLeDiff, Nat.reduceAdd, l1, l3, l5, l6, wpE_neX, eqX_plain o3 o4 o8, Bool.not_true, wL_gAttr (n := "delay") (v := delV (dvN late)) o1 rfl hdg]
  cases late with
  | true =>
    have e : eqP ⟨sl, ss'⟩ (delV (dvN true)) (.int 0) = some true := by show eqP _ (.int 0) (.int 0) = _; rw [eqP_int]; rfl
    simp only [if_true, e, wp_truthyB, Bool.not_true, Bool.false_eq_true, if_false]
    exact hQ ss' p
  | false =>
    have e : eqP ⟨sl, ss'⟩ (delV (dvN false)) .none = some true := rfl
    simp only [Bool.false_eq_true, if_false, e, wp_truthyB, Bool.not_true]
    exact hQ ss' p
/-- the two checks -/
theorem t4_two (hn : n ∈ N3) (hk : k ∈ N5) (hf : f ∈ N4) (hl : L4 sl n k f late i U R B v) (hd : sl "due" = some (outV (dueN n k f late))) (ho : O4 ss n k f late i U R B v rs) {Q : Fl → St → Prop} (hQ : ∀ sl' ss', (∀ m, m ≠ "turn" → sl' m = sl m) → ss <+: ss' → Q .next ⟨sl', ss'⟩) : wp l04s23 ⟨sl, ss⟩ Q := by
  unfold l04s23
  simp only [wp_bind, wp_pure, wp_seq', wp_ite, wp_and, wp_or, wp_setL, wp_allocList, wp_allocTuple, wp_alloc, wpE_get, wpE_mod, wpE_div, wpE_pow, wpE_iaddS, wpE_iaddI, wpE_addS, wp_add, wp_sub, wp_neg, wpE_lt, wpE_le, wpE_gt, wpE_ge, wpE_eq, wpE_ne, wpE_is, wpE_isnot, isP_bool, isP_obj, eqP_int, eqP_str, wpE_in, wpE_notin, wp_truthyB, wpE_truthyI, wpE_truthyN, wpE_truthyS, wp_isStr, wpE_lenS, wpE_lenG, wpE_range1, wpE_range2, wpE_iterS, wpE_iterG, wpE_max2, wpE_min2, if_true, if_false, String.reduceEq, reduceIte, true_and, and_true, List.length_nil, List.length_cons, List.nil_append, List.cons_append, Bool.false_eq_true, decide_eq_true_eq, Nat.zero_le, Int.reduceLT, Int.reduceLE, Int.reduceNeg, Nat.reduceLeDiff, Nat.reduceAdd]
  have gR : (ss ++ [O.range 0 2 1])[ss.length]? = some (.range 0 ((2 : Nat) : Int) 1) := get_app_len _ _ _
  rw [wL_iterR (n := 2) gR (by decide)]
  refine wp_for (f := vnat) (List.range 2) (fun d sl' ss' => (∀ m, m ≠ "turn" → sl' m = sl m) ∧ ss <+: ss') (fun d l s hI p hp => by cases hp) (fun d x r l s hx hI => ?_) (fun l s hI => hQ l s hI.1 hI.2) ⟨fun _ _ => rfl, List.prefix_append _ _⟩
  obtain ⟨i1, i2⟩ := hI
  rw [wp_bind, wp_setL]
  have i1' : ∀ m, m ≠ "turn" → (if m = "turn" then some (vnat x) else l m) = sl m := fun m hm => by rw [if_neg hm]; exact i1 m hm
  obtain ⟨l1, l2, l3, l4, l5, l6, l7, l8, l9, lA⟩ := hl
  have key : ∀ (sl2 : String → Option V), (∀ m, m ≠ "turn" → sl2 m = sl m) → ∀ {Q2 : Fl → St → Prop}, (∀ ss', s <+: ss' → Q2 .next ⟨sl2, ss'⟩) → wp l04f6 ⟨sl2, s⟩ Q2 := by
    intro sl2 h2 Q2 hQ2
    have g : ∀ m w, m ≠ "turn" → sl m = some w → sl2 m = some w := fun m w hm e => (h2 m hm).trans e
    exact t4_chk hn hk hf (i := i) (U := U) (R := R) (B := B) (v := v) ⟨g _ _ (by decide) l1, g _ _ (by decide) l2, g _ _ (by decide) l3, g _ _ (by decide) l4, g _ _ (by decide) l5, g _ _ (by decide) l6, g _ _ (by decide) l7, g _ _ (by decide) l8, g _ _ (by decide) l9, g _ _ (by decide) lA⟩ (g _ _ (by decide) hd) (ho.pre i2) hQ2
  exact key _ i1' fun ss' p => ⟨i1', i2.trans p⟩
/-- a whole rate and no rules, at the end -/
theorem t4_end (hn : n ∈ N3) (hl : L4 sl n k f late i U R B v) (ho : O4 ss n k f late i U R B v rs) {Q : Fl → St → Prop} (hQ : ∀ sl' ss', (∀ j o, j ≠ i → ss[j]? = some o → ss'[j]? = some o) → Q .next ⟨sl', ss'⟩) : wp (seqF l04s24 (seqF l04s25 l04s26)) ⟨sl, ss⟩ Q := by
  obtain ⟨l1, l2, l3, l4, l5, l6, l7, l8, l9, lA⟩ := hl
  unfold l04s24
  simp only [wp_bind, wp_pure, wp_seq', wp_ite, wp_and, wp_or, wp_setL, wp_allocList, wp_allocTuple, wp_alloc, wpE_get, wpE_mod, wpE_div, wpE_pow, wpE_iaddS, wpE_iaddI, wpE_addS, wp_add, wp_sub, wp_neg, wpE_lt, wpE_le, wpE_gt, wpE_ge, wpE_eq, wpE_ne, wpE_is, wpE_isnot, isP_bool, isP_obj, eqP_int, eqP_str, wpE_in, wpE_notin, wp_truthyB, wpE_truthyI, wpE_truthyN, wpE_truthyS, wp_isStr, wpE_lenS, wpE_lenG, wpE_range1, wpE_range2, wpE_iterS, wpE_iterG, wpE_max2, wpE_min2, if_true, if_false, String.reduceEq, reduceIte, true_and, and_true, List.length_nil, List.length_cons, List.nil_append, List.cons_append, Bool.false_eq_true, decide_eq_true_eq, Nat.zero_le, Int.reduceLT, Int.reduceLE, Int.reduceNeg, Nat.reduceLeDiff, Nat.reduceAdd]
  refine wp_rate (k := 1) (by decide) fun v' s1 p1 hr => ?_
  have hr : rateX s1 (.whole 3 5) v' := hr
  obtain ⟨q, bs, rfl, b2, b3, b4, b5, b6⟩ := hr
  obtain ⟨o1, o2, o3, o4, o5, o6, o7, o8⟩ := ho.pre p1
  have hqi : q ≠ i := by
    rintro rfl
    rw [o1] at b2
    cases b2
    cases b3
  have hUi : U ≠ i := by
    rintro rfl
    rw [o1] at o2
    cases o2
  simp only [wp_bind, wp_pure, wp_seq', wp_ite, wp_and, wp_or, wp_setL, wp_allocList, wp_allocTuple, wp_alloc, wpE_get, wpE_mod, wpE_div, wpE_pow, wpE_iaddS, wpE_iaddI, wpE_addS, wp_add, wp_sub, wp_neg, wpE_lt, wpE_le, wpE_gt, wpE_ge, wpE_eq, wpE_ne, wpE_is, wpE_isnot, isP_bool, isP_obj, eqP_int, eqP_str, wpE_in, wpE_notin, wp_truthyB, wpE_truthyI, wpE_truthyN, wpE_truthyS, wp_isStr, wpE_lenS, wpE_lenG, wpE_range1, wpE_range2, wpE_iterS, wpE_iterG, wpE_max2, wpE_min2, if_true, if_false, String.reduceEq, reduceIte, true_and, and_true, List.length_nil, List.length_cons, List.nil_append, List.cons_append, Bool.false_eq_true, decide_eq_true_eq, Nat.zero_le, Int.reduceLT, Int.reduceLE, Int.reduceNeg, Nat.reduceLeDiff, Nat.reduceAdd, l1]
  rw [wL_sAttr o1 (Nat.le_of_ble_eq_true rfl)]
  simp only [putA, String.reduceEq, if_false, if_true]
  have c1 : (s1.set i (O.inst [("useragents", .obj U), ("rulelines", .obj R), ("delay", delV (dvN late)), ("req_rate", .obj q)]))[i]? = some (O.inst [("useragents", .obj U), ("rulelines", .obj R), ("delay", delV (dvN late)), ("req_rate", .obj q)]) := get_set_here o1
  have c2 : ∀ j o, j ≠ i → s1[j]? = some o → (s1.set i (O.inst [("useragents", .obj U), ("rulelines", .obj R), ("delay", delV (dvN late)), ("req_rate", .obj q)]))[j]? = some o := fun j o hj e => get_set_other e (Ne.symm hj)
  generalize (s1.set i (O.inst [("useragents", .obj U), ("rulelines", .obj R), ("delay", delV (dvN late)), ("req_rate", .obj q)])) = s2 at c1 c2
  unfold l04s25
  simp only [wp_bind, wp_pure, wp_seq', wp_ite, wp_and, wp_or, wp_setL, wp_allocList, wp_allocTuple, wp_alloc, wpE_get, wpE_mod, wpE_div, wpE_pow, wpE_iaddS, wpE_iaddI, wpE_addS, wp_add, wp_sub, wp_neg, wpE_lt, wpE_le, wpE_gt, wpE_ge, wpE_eq, wpE_ne, wpE_is, wpE_isnot, isP_bool, isP_obj, eqP_int, eqP_str, wpE_in, wpE_notin, wp_truthyB, wpE_truthyI, wpE_truthyN, wpE_truthyS, wp_isStr, wpE_lenS, wpE_lenG, wpE_range1, wpE_range2, wpE_iterS, wpE_iterG, wpE_max2, wpE_min2, if_true, if_false, String.reduceEq, reduceIte, true_and, and_true, List.length_nil, List.length_cons, List.nil_append, List.cons_append, Bool.false_eq_true, decide_eq_true_eq, Nat.zero_le, Int.reduceLT, Int.reduceLE, Int.reduceNeg, Nat.reduceLeDiff, Nat.reduceAdd, l1]
  rw [wL_sAttr (get_pre (List.prefix_append s2 [O.list []]) c1) (Nat.le_of_ble_eq_true rfl)]
  simp only [putA, String.reduceEq, if_false, if_true]
  have hi2 : i < s2.length := get_lt c1
  have d1 : ((s2 ++ [O.list []]).set i (O.inst [("useragents", .obj U), ("rulelines", .obj s2.length), ("delay", delV (dvN late)), ("req_rate", .obj q)]))[i]? = some (O.inst [("useragents", .obj U), ("rulelines", .obj s2.length), ("delay", delV (dvN late)), ("req_rate", .obj q)]) := get_set_here (get_pre (List.prefix_append s2 [O.list []]) c1)
  have d2 : ∀ j o, j ≠ i → s1[j]? = some o → ((s2 ++ [O.list []]).set i (O.inst [("useragents", .obj U), ("rulelines", .obj s2.length), ("delay", delV (dvN late)), ("req_rate", .obj q)]))[j]? = some o := fun j o hj e => get_set_other (get_pre (List.prefix_append s2 [O.list []]) (c2 j o hj e)) (Ne.symm hj)
  have d3 : ((s2 ++ [O.list []]).set i (O.inst [("useragents", .obj U), ("rulelines", .obj s2.length), ("delay", delV (dvN late)), ("req_rate", .obj q)]))[s2.length]? = some (O.list []) := get_set_other (get_app_len _ _ _) (by omega)
  generalize ((s2 ++ [O.list []]).set i (O.inst [("useragents", .obj U), ("rulelines", .obj s2.length), ("delay", delV (dvN late)), ("req_rate", .obj q)])) = s3 at d1 d2 d3
  have tx : TXx 2 s3 (.obj i) (some (endN n late)) := by
    rw [← end_eq n hn late]
    have b1 := bound1 n hn 1 (by decide) late
    refine txx_ent (k := 1) (U := U) (R := s2.length) (rx := .whole 3 5) (rs := []) ⟨⟨_, .obj q, d1, rfl, rfl, rfl, rfl, q, bs, rfl, d2 q _ hqi b2, b3, b4, b5, b6⟩, d2 U _ hUi o2, d3, dv_small late⟩ .nil ?_ (bd2_of (bound3 n hn late))
    show ((lnA (agsN n) ++ lnD (dvN late) ++ lnR (rvOf (rsN 1))).map (·.length)).sum + (lnA (agsN n) ++ lnD (dvN late) ++ lnR (rvOf (rsN 1))).length + ([] : List V).length ≤ 1000000
    rw [List.length_nil]
    omega
  unfold l04s26
  simp only [wp_bind, wp_pure, wp_seq', wp_ite, wp_and, wp_or, wp_setL, wp_allocList, wp_allocTuple, wp_alloc, wpE_get, wpE_mod, wpE_div, wpE_pow, wpE_iaddS, wpE_iaddI, wpE_addS, wp_add, wp_sub, wp_neg, wpE_lt, wpE_le, wpE_gt, wpE_ge, wpE_eq, wpE_ne, wpE_is, wpE_isnot, isP_bool, isP_obj, eqP_int, eqP_str, wpE_in, wpE_notin, wp_truthyB, wpE_truthyI, wpE_truthyN, wpE_truthyS, wp_isStr, wpE_lenS, wpE_lenG, wpE_range1, wpE_range2, wpE_iterS, wpE_iterG, wpE_max2, wpE_min2, if_true, if_false, String.reduceEq, reduceIte, true_and, and_true, List.length_nil, List.length_cons, List.nil_append, List.cons_append, Bool.false_eq_true, decide_eq_true_eq, Nat.zero_le, Int.reduceLT, Int.reduceLE, Int.reduceNeg, Nat.reduceLeDiff, Nat.reduceAdd, l1]
  refine wp_text tx fun s4 p4 => ?_
  have fin : Q .next ⟨sl, s4⟩ := hQ sl s4 fun j o hj e => get_pre p4 (d2 j o hj (get_pre p1 e))
  have fl := (front_len n hn late).2
  have el : (cps "Request-rate: 3/5\nAllow:").length ≤ 100 := by decide +kernel
  simp only [wp_bind, wp_pure, wp_seq', wp_ite, wp_and, wp_or, wp_setL, wp_allocList, wp_allocTuple, wp_alloc, wpE_get, wpE_mod, wpE_div, wpE_pow, wpE_iaddS, wpE_iaddI, wpE_addS, wp_add, wp_sub, wp_neg, wpE_lt, wpE_le, wpE_gt, wpE_ge, wpE_eq, wpE_ne, wpE_is, wpE_isnot, isP_bool, isP_obj, eqP_int, eqP_str, wpE_in, wpE_notin, wp_truthyB, wpE_truthyI, wpE_truthyN, wpE_truthyS, wp_isStr, wpE_lenS, wpE_lenG, wpE_range1, wpE_range2, wpE_iterS, wpE_iterG, wpE_max2, wpE_min2, if_true, if_false, String.reduceEq, reduceIte, true_and, and_true, List.length_nil, List.length_cons, List.nil_append, List.cons_append, Bool.false_eq_true, decide_eq_true_eq, Nat.zero_le, Int.reduceLT, Int.reduceLE, Int.reduceNeg, Nat.reduceLeDiff, Nat.reduceAdd, l7, lA]
  by_cases h0 : n = 0
  · have e : outV (some (endN n late)) = .str (cps "") := by unfold endN outV; rw [if_pos h0]
    simp only [h0, decide_true, if_true] at e ⊢
    rw [e, eqP_str]
    simp only [decide_true, Bool.not_true, wp_truthyB, Bool.false_eq_true, if_false]
    exact fin
  · have e : outV (some (endN n late)) = .str (frontN n late ++ cps "Request-rate: 3/5\nAllow:") := by unfold endN outV; rw [if_neg h0]
    simp only [h0, decide_false, if_false]
    refine ⟨by omega, ?_⟩
    rw [e, eqP_str]
    simp only [decide_true, Bool.not_true, wp_truthyB, Bool.false_eq_true, if_false]
    exact fin
end
end Mine
set_option linter.unusedSimpArgs false
set_option linter.unusedVariables false
namespace Mine
theorem cut_ags : ∀ n ∈ N3, cut [V.str (cps "fig"), V.str (cps "plum")] none (some n) = (agsN n).map V.str := by
  intro n hn
  simp only [List.mem_cons, List.not_mem_nil, or_false] at hn
  rcases hn with rfl | rfl | rfl <;> rfl
theorem item_front {n : Int} (hn : n ∈ N3) : ∃ c : Nat, n = (c : Int) ∧ [V.str (cps ""), V.str (cps "User-agent: fig\n"), V.str (cps "User-agent: fig\nUser-agent: plum\n")][c]? = some (.str (front0 n)) := by
  simp only [List.mem_cons, List.not_mem_nil, or_false] at hn
  rcases hn with rfl | rfl | rfl
  · exact ⟨0, rfl, rfl⟩
  · exact ⟨1, rfl, rfl⟩
  · exact ⟨2, rfl, rfl⟩
section
variable {sl : String → Option V} {ss : List O}
theorem t4_build {x : Int} (hx : sl "x" = some (.int x)) {K : PM Fl} {Q : Fl → St → Prop}
    (hK : ∀ (n k f : Int) (late : Bool) (sl' : String → Option V) (T : List O) (i U R B : Nat) (v : V) (rs : List V), n ∈ N3 → k ∈ N5 → f ∈ N4 → L4 sl' n k f late i U R B v → O4 T n k f late i U R B v rs → ss <+: T → ss.length ≤ i → wp K ⟨sl', T⟩ Q) :
    wp (seqF l04s7 (seqF l04s8 (seqF l04s9 (seqF l04s10 (seqF l04s11 (seqF l04s12 (seqF l04s13 (seqF l04s14 (seqF l04s15 (seqF l04s16 (seqF l04s17 (seqF l04s18 (seqF l04s19 (seqF l04s20 (seqF l04s21 K))))))))))))))) ⟨sl, ss⟩ Q := by
  have hn : x % 3 ∈ N3 := by
    have : x % 3 = 0 ∨ x % 3 = 1 ∨ x % 3 = 2 := by omega
    simpa using this
  have hk : x / 3 % 5 ∈ N5 := by
    have : x / 3 % 5 = 0 ∨ x / 3 % 5 = 1 ∨ x / 3 % 5 = 2 ∨ x / 3 % 5 = 3 ∨ x / 3 % 5 = 4 := by omega
    simpa using this
  have hf : x / 15 % 4 ∈ N4 := by
    have : x / 15 % 4 = 0 ∨ x / 15 % 4 = 1 ∨ x / 15 % 4 = 2 ∨ x / 15 % 4 = 3 := by omega
    simpa using this
  unfold l04s7
  simp only [wp_bind, wp_pure, wp_seq', wp_ite, wp_and, wp_or, wp_setL, wp_allocList, wp_allocTuple, wp_alloc, wpE_get, wpE_mod, wpE_div, wpE_pow, wpE_iaddS, wpE_iaddI, wpE_addS, wp_add, wp_sub, wp_neg, wpE_lt, wpE_le, wpE_gt, wpE_ge, wpE_eq, wpE_ne, wpE_is, wpE_isnot, isP_bool, isP_obj, eqP_int, eqP_str, wpE_in, wpE_notin, wp_truthyB, wpE_truthyI, wpE_truthyN, wpE_truthyS, wp_isStr, wpE_lenS, wpE_lenG, wpE_range1, wpE_range2, wpE_iterS, wpE_iterG, wpE_max2, wpE_min2, if_true, if_false, String.reduceEq, reduceIte, true_and, and_true, List.length_nil, List.length_cons, List.nil_append, List.cons_append, Bool.false_eq_true, decide_eq_true_eq, Nat.zero_le, Int.reduceLT, Int.reduceLE, Int.reduceNeg, Nat.reduceLeDiff, Nat.reduceAdd, hx]
  unfold l04s8
  simp only [wp_bind, wp_pure, wp_seq', wp_ite, wp_and, wp_or, wp_setL, wp_allocList, wp_allocTuple, wp_alloc, wpE_get, wpE_mod, wpE_div, wpE_pow, wpE_iaddS, wpE_iaddI, wpE_addS, wp_add, wp_sub, wp_neg, wpE_lt, wpE_le, wpE_gt, wpE_ge, wpE_eq, wpE_ne, wpE_is, wpE_isnot, isP_bool, isP_obj, eqP_int, eqP_str, wpE_in, wpE_notin, wp_truthyB, wpE_truthyI, wpE_truthyN, wpE_truthyS, wp_isStr, wpE_lenS, wpE_lenG, wpE_range1, wpE_range2, wpE_iterS, wpE_iterG, wpE_max2, wpE_min2, if_true, if_false, String.reduceEq, reduceIte, true_and, and_true, List.length_nil, List.length_cons, List.nil_append, List.cons_append, Bool.false_eq_true, decide_eq_true_eq, Nat.zero_le, Int.reduceLT, Int.reduceLE, Int.reduceNeg, Nat.reduceLeDiff, Nat.reduceAdd, hx]
  unfold l04s9
  simp only [wp_bind, wp_pure, wp_seq', wp_ite, wp_and, wp_or, wp_setL, wp_allocList, wp_allocTuple, wp_alloc, wpE_get, wpE_mod, wpE_div, wpE_pow, wpE_iaddS, wpE_iaddI, wpE_addS, wp_add, wp_sub, wp_neg, wpE_lt, wpE_le, wpE_gt, wpE_ge, wpE_eq, wpE_ne, wpE_is, wpE_isnot, isP_bool, isP_obj, eqP_int, eqP_str, wpE_in, wpE_notin, wp_truthyB, wpE_truthyI, wpE_truthyN, wpE_truthyS, wp_isStr, wpE_lenS, wpE_lenG, wpE_range1, wpE_range2, wpE_iterS, wpE_iterG, wpE_max2, wpE_min2, if_true, if_false, String.reduceEq, reduceIte, true_and, and_true, List.length_nil, List.length_cons, List.nil_append, List.cons_append, Bool.false_eq_true, decide_eq_true_eq, Nat.zero_le, Int.reduceLT, Int.reduceLE, Int.reduceNeg, Nat.reduceLeDiff, Nat.reduceAdd, hx]
  unfold l04s10
  simp only [wp_bind, wp_pure, wp_seq', wp_ite, wp_and, wp_or, wp_setL, wp_allocList, wp_allocTuple, wp_alloc, wpE_get, wpE_mod, wpE_div, wpE_pow, wpE_iaddS, wpE_iaddI, wpE_addS, wp_add, wp_sub, wp_neg, wpE_lt, wpE_le, wpE_gt, wpE_ge, wpE_eq, wpE_ne, wpE_is, wpE_isnot, isP_bool, isP_obj, eqP_int, eqP_str, wpE_in, wpE_notin, wp_truthyB, wpE_truthyI, wpE_truthyN, wpE_truthyS, wp_isStr, wpE_lenS, wpE_lenG, wpE_range1, wpE_range2, wpE_iterS, wpE_iterG, wpE_max2, wpE_min2, if_true, if_false, String.reduceEq, reduceIte, true_and, and_true, List.length_nil, List.length_cons, List.nil_append, List.cons_append, Bool.false_eq_true, decide_eq_true_eq, Nat.zero_le, Int.reduceLT, Int.reduceLE, Int.reduceNeg, Nat.reduceLeDiff, Nat.reduceAdd, hx]
  generalize x % 3 = n at hn
  generalize x / 3 % 5 = k at hk
  generalize x / 15 % 4 = f at hf
  generalize decide (x / 60 % 2 = 1) = late
  unfold l04s11
  simp only [wp_bind, wp_pure, wp_seq', wp_ite, wp_and, wp_or, wp_setL, wp_allocList, wp_allocTuple, wp_alloc, wpE_get, wpE_mod, wpE_div, wpE_pow, wpE_iaddS, wpE_iaddI, wpE_addS, wp_add, wp_sub, wp_neg, wpE_lt, wpE_le, wpE_gt, wpE_ge, wpE_eq, wpE_ne, wpE_is, wpE_isnot, isP_bool, isP_obj, eqP_int, eqP_str, wpE_in, wpE_notin, wp_truthyB, wpE_truthyI, wpE_truthyN, wpE_truthyS, wp_isStr, wpE_lenS, wpE_lenG, wpE_range1, wpE_range2, wpE_iterS, wpE_iterG, wpE_max2, wpE_min2, if_true, if_false, String.reduceEq, reduceIte, true_and, and_true, List.length_nil, List.length_cons, List.nil_append, List.cons_append, Bool.false_eq_true, decide_eq_true_eq, Nat.zero_le, Int.reduceLT, Int.reduceLE, Int.reduceNeg, Nat.reduceLeDiff, Nat.reduceAdd]
  rw [wL_slice (lo := none) (hi := some n) (get_app_len _ _ _) rfl rfl]
  refine ⟨by simp, ?_⟩
  rw [cut_ags n hn]
  have pS : ss <+: ss ++ [O.list [V.str (cps "fig"), V.str (cps "plum")]] ++ [O.list ((agsN n).map V.str)] := (List.prefix_append _ _).trans (List.prefix_append _ _)
  have gU : (ss ++ [O.list [V.str (cps "fig"), V.str (cps "plum")]] ++ [O.list ((agsN n).map V.str)])[(ss ++ [O.list [V.str (cps "fig"), V.str (cps "plum")]]).length]? = some (O.list ((agsN n).map V.str)) := get_app_len _ _ _
  generalize (ss ++ [O.list [V.str (cps "fig"), V.str (cps "plum")]] ++ [O.list ((agsN n).map V.str)]) = S1 at pS gU
  generalize (ss ++ [O.list [V.str (cps "fig"), V.str (cps "plum")]]).length = U at gU
  unfold l04s12
  simp only [wp_bind, wp_pure, wp_seq', wp_ite, wp_and, wp_or, wp_setL, wp_allocList, wp_allocTuple, wp_alloc, wpE_get, wpE_mod, wpE_div, wpE_pow, wpE_iaddS, wpE_iaddI, wpE_addS, wp_add, wp_sub, wp_neg, wpE_lt, wpE_le, wpE_gt, wpE_ge, wpE_eq, wpE_ne, wpE_is, wpE_isnot, isP_bool, isP_obj, eqP_int, eqP_str, wpE_in, wpE_notin, wp_truthyB, wpE_truthyI, wpE_truthyN, wpE_truthyS, wp_isStr, wpE_lenS, wpE_lenG, wpE_range1, wpE_range2, wpE_iterS, wpE_iterG, wpE_max2, wpE_min2, if_true, if_false, String.reduceEq, reduceIte, true_and, and_true, List.length_nil, List.length_cons, List.nil_append, List.cons_append, Bool.false_eq_true, decide_eq_true_eq, Nat.zero_le, Int.reduceLT, Int.reduceLE, Int.reduceNeg, Nat.reduceLeDiff, Nat.reduceAdd]
  refine wp_rate hk fun v S2 p2 hr => ?_
  simp only [wp_bind, wp_pure, wp_seq', wp_ite, wp_and, wp_or, wp_setL, wp_allocList, wp_allocTuple, wp_alloc, wpE_get, wpE_mod, wpE_div, wpE_pow, wpE_iaddS, wpE_iaddI, wpE_addS, wp_add, wp_sub, wp_neg, wpE_lt, wpE_le, wpE_gt, wpE_ge, wpE_eq, wpE_ne, wpE_is, wpE_isnot, isP_bool, isP_obj, eqP_int, eqP_str, wpE_in, wpE_notin, wp_truthyB, wpE_truthyI, wpE_truthyN, wpE_truthyS, wp_isStr, wpE_lenS, wpE_lenG, wpE_range1, wpE_range2, wpE_iterS, wpE_iterG, wpE_max2, wpE_min2, if_true, if_false, String.reduceEq, reduceIte, true_and, and_true, List.length_nil, List.length_cons, List.nil_append, List.cons_append, Bool.false_eq_true, decide_eq_true_eq, Nat.zero_le, Int.reduceLT, Int.reduceLE, Int.reduceNeg, Nat.reduceLeDiff, Nat.reduceAdd]
  unfold l04s13
  simp only [wp_bind, wp_pure, wp_seq', wp_ite, wp_and, wp_or, wp_setL, wp_allocList, wp_allocTuple, wp_alloc, wpE_get, wpE_mod, wpE_div, wpE_pow, wpE_iaddS, wpE_iaddI, wpE_addS, wp_add, wp_sub, wp_neg, wpE_lt, wpE_le, wpE_gt, wpE_ge, wpE_eq, wpE_ne, wpE_is, wpE_isnot, isP_bool, isP_obj, eqP_int, eqP_str, wpE_in, wpE_notin, wp_truthyB, wpE_truthyI, wpE_truthyN, wpE_truthyS, wp_isStr, wpE_lenS, wpE_lenG, wpE_range1, wpE_range2, wpE_iterS, wpE_iterG, wpE_max2, wpE_min2, if_true, if_false, String.reduceEq, reduceIte, true_and, and_true, List.length_nil, List.length_cons, List.nil_append, List.cons_append, Bool.false_eq_true, decide_eq_true_eq, Nat.zero_le, Int.reduceLT, Int.reduceLE, Int.reduceNeg, Nat.reduceLeDiff, Nat.reduceAdd]
  refine wp_rules hf fun R rs S3 p3 gR hw hrl hpl => ?_
  simp only [wp_bind, wp_pure, wp_seq', wp_ite, wp_and, wp_or, wp_setL, wp_allocList, wp_allocTuple, wp_alloc, wpE_get, wpE_mod, wpE_div, wpE_pow, wpE_iaddS, wpE_iaddI, wpE_addS, wp_add, wp_sub, wp_neg, wpE_lt, wpE_le, wpE_gt, wpE_ge, wpE_eq, wpE_ne, wpE_is, wpE_isnot, isP_bool, isP_obj, eqP_int, eqP_str, wpE_in, wpE_notin, wp_truthyB, wpE_truthyI, wpE_truthyN, wpE_truthyS, wp_isStr, wpE_lenS, wpE_lenG, wpE_range1, wpE_range2, wpE_iterS, wpE_iterG, wpE_max2, wpE_min2, if_true, if_false, String.reduceEq, reduceIte, true_and, and_true, List.length_nil, List.length_cons, List.nil_append, List.cons_append, Bool.false_eq_true, decide_eq_true_eq, Nat.zero_le, Int.reduceLT, Int.reduceLE, Int.reduceNeg, Nat.reduceLeDiff, Nat.reduceAdd]
  have gU := get_pre (p2.trans p3) gU
  have hr := hr.pre p3
  have pS := pS.trans (p2.trans p3)
  unfold l04s14
  simp only [wp_bind, wp_pure, wp_seq', wp_ite, wp_and, wp_or, wp_setL, wp_allocList, wp_allocTuple, wp_alloc, wpE_get, wpE_mod, wpE_div, wpE_pow, wpE_iaddS, wpE_iaddI, wpE_addS, wp_add, wp_sub, wp_neg, wpE_lt, wpE_le, wpE_gt, wpE_ge, wpE_eq, wpE_ne, wpE_is, wpE_isnot, isP_bool, isP_obj, eqP_int, eqP_str, wpE_in, wpE_notin, wp_truthyB, wpE_truthyI, wpE_truthyN, wpE_truthyS, wp_isStr, wpE_lenS, wpE_lenG, wpE_range1, wpE_range2, wpE_iterS, wpE_iterG, wpE_max2, wpE_min2, if_true, if_false, String.reduceEq, reduceIte, true_and, and_true, List.length_nil, List.length_cons, List.nil_append, List.cons_append, Bool.false_eq_true, decide_eq_true_eq, Nat.zero_le, Int.reduceLT, Int.reduceLE, Int.reduceNeg, Nat.reduceLeDiff, Nat.reduceAdd, wE_entry]
  unfold l04s15
  simp only [wp_bind, wp_pure, wp_seq', wp_ite, wp_and, wp_or, wp_setL, wp_allocList, wp_allocTuple, wp_alloc, wpE_get, wpE_mod, wpE_div, wpE_pow, wpE_iaddS, wpE_iaddI, wpE_addS, wp_add, wp_sub, wp_neg, wpE_lt, wpE_le, wpE_gt, wpE_ge, wpE_eq, wpE_ne, wpE_is, wpE_isnot, isP_bool, isP_obj, eqP_int, eqP_str, wpE_in, wpE_notin, wp_truthyB, wpE_truthyI, wpE_truthyN, wpE_truthyS, wp_isStr, wpE_lenS, wpE_lenG, wpE_range1, wpE_range2, wpE_iterS, wpE_iterG, wpE_max2, wpE_min2, if_true, if_false, String.reduceEq, reduceIte, true_and, and_true, List.length_nil, List.length_cons, List.nil_append, List.cons_append, Bool.false_eq_true, decide_eq_true_eq, Nat.zero_le, Int.reduceLT, Int.reduceLE, Int.reduceNeg, Nat.reduceLeDiff, Nat.reduceAdd]
  rw [wN_sAttr]
  refine ⟨Nat.le_of_ble_eq_true rfl, ?_⟩
  simp only [putA, String.reduceEq, if_false, if_true]
  unfold l04s16
  simp only [wp_bind, wp_pure, wp_seq', wp_ite, wp_and, wp_or, wp_setL, wp_allocList, wp_allocTuple, wp_alloc, wpE_get, wpE_mod, wpE_div, wpE_pow, wpE_iaddS, wpE_iaddI, wpE_addS, wp_add, wp_sub, wp_neg, wpE_lt, wpE_le, wpE_gt, wpE_ge, wpE_eq, wpE_ne, wpE_is, wpE_isnot, isP_bool, isP_obj, eqP_int, eqP_str, wpE_in, wpE_notin, wp_truthyB, wpE_truthyI, wpE_truthyN, wpE_truthyS, wp_isStr, wpE_lenS, wpE_lenG, wpE_range1, wpE_range2, wpE_iterS, wpE_iterG, wpE_max2, wpE_min2, if_true, if_false, String.reduceEq, reduceIte, true_and, and_true, List.length_nil, List.length_cons, List.nil_append, List.cons_append, Bool.false_eq_true, decide_eq_true_eq, Nat.zero_le, Int.reduceLT, Int.reduceLE, Int.reduceNeg, Nat.reduceLeDiff, Nat.reduceAdd]
  rw [wN_sAttr]
  refine ⟨Nat.le_of_ble_eq_true rfl, ?_⟩
  simp only [putA, String.reduceEq, if_false, if_true]
  unfold l04s17
  simp only [wp_bind, wp_pure, wp_seq', wp_ite, wp_and, wp_or, wp_setL, wp_allocList, wp_allocTuple, wp_alloc, wpE_get, wpE_mod, wpE_div, wpE_pow, wpE_iaddS, wpE_iaddI, wpE_addS, wp_add, wp_sub, wp_neg, wpE_lt, wpE_le, wpE_gt, wpE_ge, wpE_eq, wpE_ne, wpE_is, wpE_isnot, isP_bool, isP_obj, eqP_int, eqP_str, wpE_in, wpE_notin, wp_truthyB, wpE_truthyI, wpE_truthyN, wpE_truthyS, wp_isStr, wpE_lenS, wpE_lenG, wpE_range1, wpE_range2, wpE_iterS, wpE_iterG, wpE_max2, wpE_min2, if_true, if_false, String.reduceEq, reduceIte, true_and, and_true, List.length_nil, List.length_cons, List.nil_append, List.cons_append, Bool.false_eq_true, decide_eq_true_eq, Nat.zero_le, Int.reduceLT, Int.reduceLE, Int.reduceNeg, Nat.reduceLeDiff, Nat.reduceAdd]
  rw [wN_sAttr]
  refine ⟨Nat.le_of_ble_eq_true rfl, ?_⟩
  simp only [putA, String.reduceEq, if_false, if_true]
  have fl := (front_len n hn late).1
  obtain ⟨c, c1, c2⟩ := item_front hn
  -- the delay
  have key : ∀ {sl2 : String → Option V}, sl2 "one" = some (.obj S3.length) → sl2 "late" = some (.bool late) → ∀ {Q2 : Fl → St → Prop}, Q2 .next ⟨sl2, S3 ++ [O.inst (E4 U R late v), O.list [], O.list []]⟩ →
      wp l04s18 ⟨sl2, S3 ++ [O.inst [("useragents", .obj U), ("rulelines", .obj R), ("delay", .none), ("req_rate", v)], O.list [], O.list []]⟩ Q2 := by
    intro sl2 h1 h2 Q2 hQ2
    unfold l04s18
    simp only [wp_bind, wp_pure, wp_seq', wp_ite, wp_and, wp_or, wp_setL, wp_allocList, wp_allocTuple, wp_alloc, wpE_get, wpE_mod, wpE_div, wpE_pow, wpE_iaddS, wpE_iaddI, wpE_addS, wp_add, wp_sub, wp_neg, wpE_lt, wpE_le, wpE_gt, wpE_ge, wpE_eq, wpE_ne, wpE_is, wpE_isnot, isP_bool, isP_obj, eqP_int, eqP_str, wpE_in, wpE_notin, wp_truthyB, wpE_truthyI, wpE_truthyN, wpE_truthyS, wp_isStr, wpE_lenS, wpE_lenG, wpE_range1, wpE_range2, wpE_iterS, wpE_iterG, wpE_max2, wpE_min2, if_true, if_false, String.reduceEq, reduceIte, true_and, and_true, List.length_nil, List.length_cons, List.nil_append, List.cons_append, Bool.false_eq_true, decide_eq_true_eq, Nat.zero_le, Int.reduceLT, Int.reduceLE, Int.reduceNeg, Nat.reduceLeDiff, Nat.reduceAdd, h1, h2]
    cases late with
    | true =>
      simp only [if_true]
      rw [wN_sAttr]
      refine ⟨Nat.le_of_ble_eq_true rfl, ?_⟩
      simp only [putA, String.reduceEq, if_false, if_true]
      exact hQ2
    | false => exact hQ2
  refine key (by simp) (by simp) ?_
  dsimp only
  have g1 : (S3 ++ [O.inst (E4 U R late v), O.list [], O.list []])[S3.length]? = some (O.inst (E4 U R late v)) := get_app_len _ _ _
  have pT : S3 <+: S3 ++ [O.inst (E4 U R late v), O.list [], O.list []] := List.prefix_append _ _
  have hi : ss.length ≤ S3.length := pS.length_le
  generalize (S3 ++ [O.inst (E4 U R late v), O.list [], O.list []]) = T at g1 pT
  generalize S3.length = i at g1 hi
  unfold l04s19
  simp only [wp_bind, wp_pure, wp_seq', wp_ite, wp_and, wp_or, wp_setL, wp_allocList, wp_allocTuple, wp_alloc, wpE_get, wpE_mod, wpE_div, wpE_pow, wpE_iaddS, wpE_iaddI, wpE_addS, wp_add, wp_sub, wp_neg, wpE_lt, wpE_le, wpE_gt, wpE_ge, wpE_eq, wpE_ne, wpE_is, wpE_isnot, isP_bool, isP_obj, eqP_int, eqP_str, wpE_in, wpE_notin, wp_truthyB, wpE_truthyI, wpE_truthyN, wpE_truthyS, wp_isStr, wpE_lenS, wpE_lenG, wpE_range1, wpE_range2, wpE_iterS, wpE_iterG, wpE_max2, wpE_min2, if_true, if_false, String.reduceEq, reduceIte, true_and, and_true, List.length_nil, List.length_cons, List.nil_append, List.cons_append, Bool.false_eq_true, decide_eq_true_eq, Nat.zero_le, Int.reduceLT, Int.reduceLE, Int.reduceNeg, Nat.reduceLeDiff, Nat.reduceAdd]
  rw [wL_list (get_pre pT gR)]
  refine ⟨by omega, ?_⟩
  simp only [wp_bind, wp_pure, wp_seq', wp_ite, wp_and, wp_or, wp_setL, wp_allocList, wp_allocTuple, wp_alloc, wpE_get, wpE_mod, wpE_div, wpE_pow, wpE_iaddS, wpE_iaddI, wpE_addS, wp_add, wp_sub, wp_neg, wpE_lt, wpE_le, wpE_gt, wpE_ge, wpE_eq, wpE_ne, wpE_is, wpE_isnot, isP_bool, isP_obj, eqP_int, eqP_str, wpE_in, wpE_notin, wp_truthyB, wpE_truthyI, wpE_truthyN, wpE_truthyS, wp_isStr, wpE_lenS, wpE_lenG, wpE_range1, wpE_range2, wpE_iterS, wpE_iterG, wpE_max2, wpE_min2, if_true, if_false, String.reduceEq, reduceIte, true_and, and_true, List.length_nil, List.length_cons, List.nil_append, List.cons_append, Bool.false_eq_true, decide_eq_true_eq, Nat.zero_le, Int.reduceLT, Int.reduceLE, Int.reduceNeg, Nat.reduceLeDiff, Nat.reduceAdd]
  have gB : (T ++ [O.list rs])[T.length]? = some (O.list rs) := get_app_len _ _ _
  have pT2 : T <+: T ++ [O.list rs] := List.prefix_append _ _
  generalize (T ++ [O.list rs]) = T2 at gB pT2
  generalize T.length = B at gB
  unfold l04s20
  simp only [wp_bind, wp_pure, wp_seq', wp_ite, wp_and, wp_or, wp_setL, wp_allocList, wp_allocTuple, wp_alloc, wpE_get, wpE_mod, wpE_div, wpE_pow, wpE_iaddS, wpE_iaddI, wpE_addS, wp_add, wp_sub, wp_neg, wpE_lt, wpE_le, wpE_gt, wpE_ge, wpE_eq, wpE_ne, wpE_is, wpE_isnot, isP_bool, isP_obj, eqP_int, eqP_str, wpE_in, wpE_notin, wp_truthyB, wpE_truthyI, wpE_truthyN, wpE_truthyS, wp_isStr, wpE_lenS, wpE_lenG, wpE_range1, wpE_range2, wpE_iterS, wpE_iterG, wpE_max2, wpE_min2, if_true, if_false, String.reduceEq, reduceIte, true_and, and_true, List.length_nil, List.length_cons, List.nil_append, List.cons_append, Bool.false_eq_true, decide_eq_true_eq, Nat.zero_le, Int.reduceLT, Int.reduceLE, Int.reduceNeg, Nat.reduceLeDiff, Nat.reduceAdd]
  rw [wL_itemI c1 (get_app_len _ _ _) (by simp) c2]
  simp only [wp_bind, wp_pure, wp_seq', wp_ite, wp_and, wp_or, wp_setL, wp_allocList, wp_allocTuple, wp_alloc, wpE_get, wpE_mod, wpE_div, wpE_pow, wpE_iaddS, wpE_iaddI, wpE_addS, wp_add, wp_sub, wp_neg, wpE_lt, wpE_le, wpE_gt, wpE_ge, wpE_eq, wpE_ne, wpE_is, wpE_isnot, isP_bool, isP_obj, eqP_int, eqP_str, wpE_in, wpE_notin, wp_truthyB, wpE_truthyI, wpE_truthyN, wpE_truthyS, wp_isStr, wpE_lenS, wpE_lenG, wpE_range1, wpE_range2, wpE_iterS, wpE_iterG, wpE_max2, wpE_min2, if_true, if_false, String.reduceEq, reduceIte, true_and, and_true, List.length_nil, List.length_cons, List.nil_append, List.cons_append, Bool.false_eq_true, decide_eq_true_eq, Nat.zero_le, Int.reduceLT, Int.reduceLE, Int.reduceNeg, Nat.reduceLeDiff, Nat.reduceAdd]
  have pT3 : T2 <+: T2 ++ [O.list [V.str (cps ""), V.str (cps "User-agent: fig\n"), V.str (cps "User-agent: fig\nUser-agent: plum\n")]] := List.prefix_append _ _
  generalize (T2 ++ [O.list [V.str (cps ""), V.str (cps "User-agent: fig\n"), V.str (cps "User-agent: fig\nUser-agent: plum\n")]]) = T3 at pT3
  have pp := pT2.trans pT3
  have hO : O4 T3 n k f late i U R B v rs := ⟨get_pre pp g1, get_pre (pT.trans pp) gU, get_pre (pT.trans pp) gR, get_pre pT3 gB, hr.pre (pT.trans pp), paired_pre (pT.trans pp) hw, hrl, hpl⟩
  unfold l04s21
  simp only [wp_bind, wp_pure, wp_seq', wp_ite, wp_and, wp_or, wp_setL, wp_allocList, wp_allocTuple, wp_alloc, wpE_get, wpE_mod, wpE_div, wpE_pow, wpE_iaddS, wpE_iaddI, wpE_addS, wp_add, wp_sub, wp_neg, wpE_lt, wpE_le, wpE_gt, wpE_ge, wpE_eq, wpE_ne, wpE_is, wpE_isnot, isP_bool, isP_obj, eqP_int, eqP_str, wpE_in, wpE_notin, wp_truthyB, wpE_truthyI, wpE_truthyN, wpE_truthyS, wp_isStr, wpE_lenS, wpE_lenG, wpE_range1, wpE_range2, wpE_iterS, wpE_iterG, wpE_max2, wpE_min2, if_true, if_false, String.reduceEq, reduceIte, true_and, and_true, List.length_nil, List.length_cons, List.nil_append, List.cons_append, Bool.false_eq_true, decide_eq_true_eq, Nat.zero_le, Int.reduceLT, Int.reduceLE, Int.reduceNeg, Nat.reduceLeDiff, Nat.reduceAdd]
  have e1 : (cps "Crawl-delay: 0\n").length ≤ 100 := by decide +kernel
  have e0 : (cps "").length ≤ 100 := by decide +kernel
  cases late with
  | true =>
    simp only [if_true]
    refine ⟨by omega, ?_⟩
    exact hK n k f true _ T3 i U R B v rs hn hk hf ⟨by simp, by simp, by simp, by simp, by simp, by simp, by simp, by simp, by simp, by simp [frontN]⟩ hO (pS.trans (pT.trans pp)) hi
  | false =>
    simp only [Bool.false_eq_true, if_false]
    refine ⟨by omega, ?_⟩
    exact hK n k f false _ T3 i U R B v rs hn hk hf ⟨by simp, by simp, by simp, by simp, by simp, by simp, by simp, by simp, by simp, by simp [frontN]⟩ hO (pS.trans (pT.trans pp)) hi
theorem L4.upd {sl' : String → Option V} {n k f : Int} {late : Bool} {i U R B : Nat} {v : V} (h : L4 sl n k f late i U R B v) (e : ∀ m, m ≠ "due" → m ≠ "turn" → sl' m = sl m) : L4 sl' n k f late i U R B v := by
  obtain ⟨l1, l2, l3, l4, l5, l6, l7, l8, l9, lA⟩ := h
  have g : ∀ m w, m ≠ "due" → m ≠ "turn" → sl m = some w → sl' m = some w := fun m w h1 h2 q => (e m h1 h2).trans q
  exact ⟨g _ _ (by decide) (by decide) l1, g _ _ (by decide) (by decide) l2, g _ _ (by decide) (by decide) l3, g _ _ (by decide) (by decide) l4, g _ _ (by decide) (by decide) l5, g _ _ (by decide) (by decide) l6, g _ _ (by decide) (by decide) l7, g _ _ (by decide) (by decide) l8, g _ _ (by decide) (by decide) l9, g _ _ (by decide) (by decide) lA⟩
theorem t4_body {x : Int} (hx : sl "x" = some (.int x)) {L : O} (hL : ss[2]? = some L) {Q : Fl → St → Prop} (hQ : ∀ sl' ss', ss'[2]? = some L → Q .next ⟨sl', ss'⟩) : wp l04f27 ⟨sl, ss⟩ Q := by
  unfold l04f27
  refine t4_build hx fun n k f late sl1 T i U R B v rs hn hk hf hl ho pT hi => ?_
  rw [wp_seq']
  refine t4_due hn hk hf hl fun sl2 T2 e2 d2 p2 => ?_
  dsimp only
  rw [wp_seq']
  have hl2 := hl.upd (sl' := sl2) fun m h1 _ => e2 m h1
  refine t4_two hn hk hf hl2 d2 (ho.pre p2) fun sl3 T3 e3 p3 => ?_
  dsimp only
  have hl3 := hl2.upd (sl' := sl3) fun m _ h2 => e3 m h2
  have h2 := get_lt hL
  refine t4_end hn hl3 ((ho.pre p2).pre p3) fun sl4 T4 k4 => hQ sl4 T4 (k4 2 L (by omega) (get_pre (pT.trans (p2.trans p3)) hL))
theorem wL_listG {a : Addr} {xs : List Int} {Q : V → St → Prop} (h : xs.length ≤ 1000000) : wp (cListG a xs [.glob (.ref a)]) ⟨sl, ss⟩ Q = Q (.obj ss.length) ⟨sl, ss ++ [.list (xs.map V.int)]⟩ := by
  unfold wp cListG
  simp only [true_and, h, if_true]
  rfl
end
theorem t4_all (a : Addr) (xs : List Int) (hx : xs.length ≤ 63) : WPs (law04 a xs) ⟨fun k => if k = "script" then some (.glob (.ref a)) else none, []⟩ (fun f _ => f = .ret (.bool true)) := by
  constructor
  unfold law04 l04s28
  rw [wp_seq']
  simp only [wp_bind, wp_pure, wp_seq', wp_ite, wp_and, wp_or, wp_setL, wp_allocList, wp_allocTuple, wp_alloc, wpE_get, wpE_mod, wpE_div, wpE_pow, wpE_iaddS, wpE_iaddI, wpE_addS, wp_add, wp_sub, wp_neg, wpE_lt, wpE_le, wpE_gt, wpE_ge, wpE_eq, wpE_ne, wpE_is, wpE_isnot, isP_bool, isP_obj, eqP_int, eqP_str, wpE_in, wpE_notin, wp_truthyB, wpE_truthyI, wpE_truthyN, wpE_truthyS, wp_isStr, wpE_lenS, wpE_lenG, wpE_range1, wpE_range2, wpE_iterS, wpE_iterG, wpE_max2, wpE_min2, if_true, if_false, String.reduceEq, reduceIte, true_and, and_true, List.length_nil, List.length_cons, List.nil_append, List.cons_append, Bool.false_eq_true, decide_eq_true_eq, Nat.zero_le, Int.reduceLT, Int.reduceLE, Int.reduceNeg, Nat.reduceLeDiff, Nat.reduceAdd]
  rw [wL_listG (by omega)]
  simp only [wp_bind, wp_pure, wp_seq', wp_ite, wp_and, wp_or, wp_setL, wp_allocList, wp_allocTuple, wp_alloc, wpE_get, wpE_mod, wpE_div, wpE_pow, wpE_iaddS, wpE_iaddI, wpE_addS, wp_add, wp_sub, wp_neg, wpE_lt, wpE_le, wpE_gt, wpE_ge, wpE_eq, wpE_ne, wpE_is, wpE_isnot, isP_bool, isP_obj, eqP_int, eqP_str, wpE_in, wpE_notin, wp_truthyB, wpE_truthyI, wpE_truthyN, wpE_truthyS, wp_isStr, wpE_lenS, wpE_lenG, wpE_range1, wpE_range2, wpE_iterS, wpE_iterG, wpE_max2, wpE_min2, if_true, if_false, String.reduceEq, reduceIte, true_and, and_true, List.length_nil, List.length_cons, List.nil_append, List.cons_append, Bool.false_eq_true, decide_eq_true_eq, Nat.zero_le, Int.reduceLT, Int.reduceLE, Int.reduceNeg, Nat.reduceLeDiff, Nat.reduceAdd]
  rw [wL_add (xs := xs.map V.int) (ys := [.int 1]) rfl rfl]
  have eL : xs.map V.int ++ [V.int 1] = (xs ++ [1]).map V.int := by simp
  rw [eL]
  refine ⟨by simp; omega, ?_⟩
  simp only [List.length_cons, List.length_nil, Nat.reduceAdd, List.cons_append, List.nil_append]
  rw [wL_iter (i := 2) (xs := (xs ++ [1]).map V.int) rfl]
  dsimp only
  refine wp_for (f := V.int) (xs ++ [1]) (fun _ _ ss => ss[2]? = some (O.list ((xs ++ [1]).map V.int))) (fun d l s hI p hp => by cases hp; exact hI) (fun d x r l s hd hI => ?_) (fun l s hI => ?_) rfl
  · rw [wp_bind, wp_setL]
    exact t4_body (x := x) (by simp) hI fun sl' ss' h => h
  · unfold l04s29
    simp only [wp_bind, wp_pure, wp_seq', wp_ite, wp_and, wp_or, wp_setL, wp_allocList, wp_allocTuple, wp_alloc, wpE_get, wpE_mod, wpE_div, wpE_pow, wpE_iaddS, wpE_iaddI, wpE_addS, wp_add, wp_sub, wp_neg, wpE_lt, wpE_le, wpE_gt, wpE_ge, wpE_eq, wpE_ne, wpE_is, wpE_isnot, isP_bool, isP_obj, eqP_int, eqP_str, wpE_in, wpE_notin, wp_truthyB, wpE_truthyI, wpE_truthyN, wpE_truthyS, wp_isStr, wpE_lenS, wpE_lenG, wpE_range1, wpE_range2, wpE_iterS, wpE_iterG, wpE_max2, wpE_min2, if_true, if_false, String.reduceEq, reduceIte, true_and, and_true, List.length_nil, List.length_cons, List.nil_append, List.cons_append, Bool.false_eq_true, decide_eq_true_eq, Nat.zero_le, Int.reduceLT, Int.reduceLE, Int.reduceNeg, Nat.reduceLeDiff, Nat.reduceAdd]
theorem law04_true (a : Addr) (xs : List Int) (hx : xs.length ≤ 63) : ∃ st', law04 a xs ⟨fun k => if k = "script" then some (.glob (.ref a)) else none, []⟩ = .ok (.ret (.bool true)) st' := run_wps (t4_all a xs hx)
end Mine
namespace Mine
set_option maxRecDepth 100000 in
set_option maxHeartbeats 8000000 in
open_top hd for PySem.Challenge.rw_dn0257_04
set_option maxRecDepth 100000
set_option maxHeartbeats 8000000
theorem fn_init (cx : Cx) (hK : cx.K = hd.heap_39 cx.w.params) (hC : cx.C = 59) : Fn cx 0 35 ["self"] initE := by
  obtain ⟨prog, w, K, C, p, loose, mg, mb, h₀, L, A, fenv, env, base, outer, os, n, fm, fzn, lam, tab⟩ := cx
  dsimp only at hK hC
  subst hK hC
  refine fn_user (by rfl) (by rfl) (fun Vs hVs => ?_) ?_ (by decide) (by decide) rfl rfl rfl ?_
  · match Vs, hVs with
    | [a], _ => rfl
  · decide
  · intro A' g L' ok
    refine body_of ?_
    · refine sim_cons ?_ ?_
      · refine sim_AssignAttr ok ?_ ?_ ?_ ?_
        · refine sim_List ?_
          · exact sim_args_nil
        · refine sim_Name ok ?_ ?_
          · kernel_rfl
          · kernel_rfl
        · kernel_rfl
        · kernel_rfl
      · refine sim_cons ?_ ?_
        · refine sim_AssignAttr ok ?_ ?_ ?_ ?_
          · refine sim_List ?_
            · exact sim_args_nil
          · refine sim_Name ok ?_ ?_
            · kernel_rfl
            · kernel_rfl
          · kernel_rfl
          · kernel_rfl
        · refine sim_cons ?_ ?_
          · refine sim_AssignAttr ok ?_ ?_ ?_ ?_
            · exact sim_none
            · refine sim_Name ok ?_ ?_
              · kernel_rfl
              · kernel_rfl
            · kernel_rfl
            · kernel_rfl
          · refine sim_one ?_
            · refine sim_AssignAttr ok ?_ ?_ ?_ ?_
              · exact sim_none
              · refine sim_Name ok ?_ ?_
                · kernel_rfl
                · kernel_rfl
              · kernel_rfl
              · kernel_rfl
theorem strX_ae : ∀ (k : Nat) (st : St) (kk : String) (st' : St), strX k st = .exc kk st' → kk = "AttributeError"
  | 0, _, _, _, h => by cases h
  | _ + 1, _, _, _, h => (onlyAE_exc h).2
theorem fn_strX (k : Nat) : (∀ (cx : Cx) (hK : cx.K = hd.heap_39 cx.w.params) (hC : cx.C = 59), Fn cx k 42 ["self"] (strX k)) ∧ (∀ (cx : Cx) (hK : cx.K = hd.heap_39 cx.w.params) (hC : cx.C = 59), FnX cx k 42 ["self"] (strX k)) := by
  induction k with
  | zero =>
    refine ⟨fun cx hK hC => ⟨?_⟩, fun cx hK hC => ⟨?_⟩⟩
    · intro A' _ _ _ ρ hid st st' s x vs Vs hv v h
      exfalso
      unfold callP at h
      split at h
      · simp [strX, PM.fail] at h
      · cases h
    · intro _ _ _ ρ hid st st' s x vs Vs hv v h
      exfalso
      unfold callP at h
      split at h
      · simp [strX, PM.fail] at h
      · cases h
  | succ k ih =>
    obtain ⟨ih1, ih2⟩ := ih
    refine ⟨fun cx hK hC => Fn.ae ?_, fun cx hK hC => FnX.ae ?_⟩
    · obtain ⟨prog, w, K, C, p, loose, mg, mb, h₀, L, A, fenv, env, base, outer, os, n, fm, fzn, lam, tab⟩ := cx
      dsimp only at hK hC
      subst hK hC
      refine fn_user (by rfl) (by rfl) (fun Vs hVs => ?_) ?_ (by decide) (by decide) rfl rfl rfl ?_
      · match Vs, hVs with
        | [a], _ => rfl
      · decide
      · intro A' g L' ok
        have S : StrX _ k 42 (strX k) := ⟨strOf_ok ok (k := k) (f := 42) (mb := strX k) (Nat.le_refl _) (by kernel_rfl) (by kernel_rfl) (ih1 _ rfl rfl), fun _ => ih2 _ rfl rfl, strX_ae k⟩
        refine body_of ?_
        refine sim_cons ?_ ?_
        · refine sim_ok ?_
          · refine sim_If ?_ ?_ ?_
            · refine sim_test_Not ?_
              · refine sim_test ?_ p_truthy
                · refine sim_Attribute ok ?_ ?_
                  · refine sim_Name ok ?_ ?_
                    · kernel_rfl
                    · kernel_rfl
                  · kernel_rfl
            · refine sim_one ?_
              · refine sim_Return ?_
                · exact sim_str
            · exact sim_nil
        · refine sim_cons ?_ ?_
          · refine sim_ok ?_
            · refine sim_Assign ok ?_ ?_ ?_
              · refine sim_List ?_
                · exact sim_args_nil
              · exact (.inl (by kernel_rfl))
              · kernel_rfl
          · refine sim_cons ?_ ?_
            · refine sim_ok ?_
              · refine sim_For ok ?_ ?_ ?_ ?_
                · refine sim_Attribute ok ?_ ?_
                  · refine sim_Name ok ?_ ?_
                    · kernel_rfl
                    · kernel_rfl
                  · kernel_rfl
                · refine sim_target ok ?_
                  · exact (.inl (by kernel_rfl))
                · refine sim_one ?_
                  · refine sim_Expr ?_ ?_ ?_ ?_
                    · refine sim_ML ok PySem.F.slot_list_append ?_ pc_append ?_ ?_ ?_ ?_ ?_ ?_
                      · exact rfl
                      · refine sim_Name ok ?_ ?_
                        · kernel_rfl
                        · kernel_rfl
                      · refine sim_args_cons ?_ ?_ ?_
                        · refine sim_JoinedStr ?_
                          · refine sim_parts_cons ?_ ?_
                            · exact sim_str
                            · refine sim_parts_cons ?_ ?_
                              · refine sim_Fmt ?_
                                · refine sim_Name ok ?_ ?_
                                  · kernel_rfl
                                  · kernel_rfl
                              · exact sim_parts_nil
                        · exact sim_args_nil
                        · exact (star_plain rfl)
                      · exact (plain_cons rfl plain_nil)
                      · exact rfl
                      · exact rfl
                      · exact rfl
                    · kernel_rfl
                    · kernel_rfl
                    · exact fun _ => by kernel_rfl
                · exact fun _ => rfl
            · refine sim_cons ?_ ?_
              · refine sim_ok ?_
                · refine sim_If ?_ ?_ ?_
                  · refine sim_test_Compare ?_ ?_ p_isnot p_truthy ?_
                    · refine sim_Attribute ok ?_ ?_
                      · refine sim_Name ok ?_ ?_
                        · kernel_rfl
                        · kernel_rfl
                      · kernel_rfl
                    · exact sim_none
                    · exact rfl
                  · refine sim_one ?_
                    · refine sim_Expr ?_ ?_ ?_ ?_
                      · refine sim_ML ok PySem.F.slot_list_append ?_ pc_append ?_ ?_ ?_ ?_ ?_ ?_
                        · exact rfl
                        · refine sim_Name ok ?_ ?_
                          · kernel_rfl
                          · kernel_rfl
                        · refine sim_args_cons ?_ ?_ ?_
                          · refine sim_JoinedStr ?_
                            · refine sim_parts_cons ?_ ?_
                              · exact sim_str
                              · refine sim_parts_cons ?_ ?_
                                · refine sim_Fmt ?_
                                  · refine sim_Attribute ok ?_ ?_
                                    · refine sim_Name ok ?_ ?_
                                      · kernel_rfl
                                      · kernel_rfl
                                    · kernel_rfl
                                · exact sim_parts_nil
                          · exact sim_args_nil
                          · exact (star_plain rfl)
                        · exact (plain_cons rfl plain_nil)
                        · exact rfl
                        · exact rfl
                        · exact rfl
                      · kernel_rfl
                      · kernel_rfl
                      · exact fun _ => by kernel_rfl
                  · exact sim_nil
              · refine sim_cons ?_ ?_
                · refine sim_If ?_ ?_ ?_
                  · refine sim_ok ?_
                    · refine sim_test_Compare ?_ ?_ p_isnot p_truthy ?_
                      · refine sim_Attribute ok ?_ ?_
                        · refine sim_Name ok ?_ ?_
                          · kernel_rfl
                          · kernel_rfl
                        · kernel_rfl
                      · exact sim_none
                      · exact rfl
                  · refine sim_cons ?_ ?_
                    · refine sim_ok ?_
                      · refine sim_Assign ok ?_ ?_ ?_
                        · refine sim_Attribute ok ?_ ?_
                          · refine sim_Name ok ?_ ?_
                            · kernel_rfl
                            · kernel_rfl
                          · kernel_rfl
                        · exact (.inl (by kernel_rfl))
                        · kernel_rfl
                    · refine sim_one ?_
                      · refine sim_Expr ?_ ?_ ?_ ?_
                        · refine sim_ML ok PySem.F.slot_list_append ?_ pc_append ?_ ?_ ?_ ?_ ?_ ?_
                          · exact rfl
                          · refine sim_Name ok ?_ ?_
                            · kernel_rfl
                            · kernel_rfl
                          · refine sim_args_cons ?_ ?_ ?_
                            · refine sim_JoinedStr ?_
                              · refine sim_parts_cons ?_ ?_
                                · exact sim_str
                                · refine sim_parts_cons ?_ ?_
                                  · refine sim_Fmt ?_
                                    · refine sim_AttributeX ok ?_ ?_
                                      · refine sim_Name ok ?_ ?_
                                        · kernel_rfl
                                        · kernel_rfl
                                      · kernel_rfl
                                  · refine sim_parts_cons ?_ ?_
                                    · exact sim_str
                                    · refine sim_parts_cons ?_ ?_
                                      · refine sim_Fmt ?_
                                        · refine sim_AttributeX ok ?_ ?_
                                          · refine sim_Name ok ?_ ?_
                                            · kernel_rfl
                                            · kernel_rfl
                                          · kernel_rfl
                                      · exact sim_parts_nil
                            · exact sim_args_nil
                            · exact (star_plain rfl)
                          · exact (plain_cons rfl plain_nil)
                          · exact rfl
                          · exact rfl
                          · exact rfl
                        · kernel_rfl
                        · kernel_rfl
                        · exact fun _ => by kernel_rfl
                  · exact sim_nil
                · refine sim_cons ?_ ?_
                  · refine sim_If ?_ ?_ ?_
                    · refine sim_ok ?_
                      · refine sim_test ?_ p_truthy
                        · refine sim_Attribute ok ?_ ?_
                          · refine sim_Name ok ?_ ?_
                            · kernel_rfl
                            · kernel_rfl
                          · kernel_rfl
                    · refine sim_one ?_
                      · refine sim_Expr ?_ ?_ ?_ ?_
                        · refine sim_ExtMap ok S.o ?_ ?_ ?_ ?_ ?_ ?_ ?_
                          · refine sim_Name ok ?_ ?_
                            · kernel_rfl
                            · kernel_rfl
                          · refine sim_Builtin ok ?_ ?_ ?_ ?_ ?_
                            · kernel_rfl
                            · kernel_rfl
                            · kernel_rfl
                            · exact (by decide)
                            · kernel_rfl
                          · refine sim_Builtin ok ?_ ?_ ?_ ?_ ?_
                            · kernel_rfl
                            · kernel_rfl
                            · kernel_rfl
                            · exact (by decide)
                            · kernel_rfl
                          · refine sim_ok ?_
                            · refine sim_Attribute ok ?_ ?_
                              · refine sim_Name ok ?_ ?_
                                · kernel_rfl
                                · kernel_rfl
                              · kernel_rfl
                          · exact rfl
                          · exact rfl
                          · exact rfl
                        · kernel_rfl
                        · kernel_rfl
                        · exact fun _ => by kernel_rfl
                    · refine sim_one ?_
                      · refine sim_ok ?_
                        · refine sim_Expr ?_ ?_ ?_ ?_
                          · refine sim_ML ok PySem.F.slot_list_append ?_ pc_append ?_ ?_ ?_ ?_ ?_ ?_
                            · exact rfl
                            · refine sim_Name ok ?_ ?_
                              · kernel_rfl
                              · kernel_rfl
                            · refine sim_args_cons ?_ ?_ ?_
                              · exact sim_str
                              · exact sim_args_nil
                              · exact (star_plain rfl)
                            · exact (plain_cons rfl plain_nil)
                            · exact rfl
                            · exact rfl
                            · exact rfl
                          · kernel_rfl
                          · kernel_rfl
                          · exact fun _ => by kernel_rfl
                  · refine sim_one ?_
                    · refine sim_ok ?_
                      · refine sim_Return ?_
                        · refine sim_MS ok PySem.F.slot_str_join ?_ pc_join ?_ ?_ ?_ ?_ ?_ ?_
                          · exact rfl
                          · exact sim_str
                          · refine sim_args_cons ?_ ?_ ?_
                            · refine sim_Name ok ?_ ?_
                              · kernel_rfl
                              · kernel_rfl
                            · exact sim_args_nil
                            · exact (star_plain rfl)
                          · exact (plain_cons rfl plain_nil)
                          · exact rfl
                          · exact rfl
                          · exact rfl
    · obtain ⟨prog, w, K, C, p, loose, mg, mb, h₀, L, A, fenv, env, base, outer, os, n, fm, fzn, lam, tab⟩ := cx
      dsimp only at hK hC
      subst hK hC
      refine fnX_user (by rfl) (by rfl) (fun Vs hVs => ?_) ?_ (by decide) (by decide) rfl rfl rfl ?_
      · match Vs, hVs with
        | [a], _ => rfl
      · decide
      · intro g L' ok
        have S : StrX _ k 42 (strX k) := ⟨strOf_ok ok (k := k) (f := 42) (mb := strX k) (Nat.le_refl _) (by kernel_rfl) (by kernel_rfl) (ih1 _ rfl rfl), fun _ => ih2 _ rfl rfl, strX_ae k⟩
        refine x_cons ?_ ?_ ?_
        · refine sim_ok ?_
          · refine sim_If ?_ ?_ ?_
            · refine sim_test_Not ?_
              · refine sim_test ?_ p_truthy
                · refine sim_Attribute ok ?_ ?_
                  · refine sim_Name ok ?_ ?_
                    · kernel_rfl
                    · kernel_rfl
                  · kernel_rfl
            · refine sim_one ?_
              · refine sim_Return ?_
                · exact sim_str
            · exact sim_nil
        · refine x_nox ?_
          · exact nox_ok _
        · refine x_cons ?_ ?_ ?_
          · refine sim_ok ?_
            · refine sim_Assign ok ?_ ?_ ?_
              · refine sim_List ?_
                · exact sim_args_nil
              · exact (.inl (by kernel_rfl))
              · kernel_rfl
          · refine x_nox ?_
            · exact nox_ok _
          · refine x_cons ?_ ?_ ?_
            · refine sim_ok ?_
              · refine sim_For ok ?_ ?_ ?_ ?_
                · refine sim_Attribute ok ?_ ?_
                  · refine sim_Name ok ?_ ?_
                    · kernel_rfl
                    · kernel_rfl
                  · kernel_rfl
                · refine sim_target ok ?_
                  · exact (.inl (by kernel_rfl))
                · refine sim_one ?_
                  · refine sim_Expr ?_ ?_ ?_ ?_
                    · refine sim_ML ok PySem.F.slot_list_append ?_ pc_append ?_ ?_ ?_ ?_ ?_ ?_
                      · exact rfl
                      · refine sim_Name ok ?_ ?_
                        · kernel_rfl
                        · kernel_rfl
                      · refine sim_args_cons ?_ ?_ ?_
                        · refine sim_JoinedStr ?_
                          · refine sim_parts_cons ?_ ?_
                            · exact sim_str
                            · refine sim_parts_cons ?_ ?_
                              · refine sim_Fmt ?_
                                · refine sim_Name ok ?_ ?_
                                  · kernel_rfl
                                  · kernel_rfl
                              · exact sim_parts_nil
                        · exact sim_args_nil
                        · exact (star_plain rfl)
                      · exact (plain_cons rfl plain_nil)
                      · exact rfl
                      · exact rfl
                      · exact rfl
                    · kernel_rfl
                    · kernel_rfl
                    · exact fun _ => by kernel_rfl
                · exact fun _ => rfl
            · refine x_nox ?_
              · exact nox_ok _
            · refine x_cons ?_ ?_ ?_
              · refine sim_ok ?_
                · refine sim_If ?_ ?_ ?_
                  · refine sim_test_Compare ?_ ?_ p_isnot p_truthy ?_
                    · refine sim_Attribute ok ?_ ?_
                      · refine sim_Name ok ?_ ?_
                        · kernel_rfl
                        · kernel_rfl
                      · kernel_rfl
                    · exact sim_none
                    · exact rfl
                  · refine sim_one ?_
                    · refine sim_Expr ?_ ?_ ?_ ?_
                      · refine sim_ML ok PySem.F.slot_list_append ?_ pc_append ?_ ?_ ?_ ?_ ?_ ?_
                        · exact rfl
                        · refine sim_Name ok ?_ ?_
                          · kernel_rfl
                          · kernel_rfl
                        · refine sim_args_cons ?_ ?_ ?_
                          · refine sim_JoinedStr ?_
                            · refine sim_parts_cons ?_ ?_
                              · exact sim_str
                              · refine sim_parts_cons ?_ ?_
                                · refine sim_Fmt ?_
                                  · refine sim_Attribute ok ?_ ?_
                                    · refine sim_Name ok ?_ ?_
                                      · kernel_rfl
                                      · kernel_rfl
                                    · kernel_rfl
                                · exact sim_parts_nil
                          · exact sim_args_nil
                          · exact (star_plain rfl)
                        · exact (plain_cons rfl plain_nil)
                        · exact rfl
                        · exact rfl
                        · exact rfl
                      · kernel_rfl
                      · kernel_rfl
                      · exact fun _ => by kernel_rfl
                  · exact sim_nil
              · refine x_nox ?_
                · exact nox_ok _
              · refine x_cons ?_ ?_ ?_
                · refine sim_If ?_ ?_ ?_
                  · refine sim_ok ?_
                    · refine sim_test_Compare ?_ ?_ p_isnot p_truthy ?_
                      · refine sim_Attribute ok ?_ ?_
                        · refine sim_Name ok ?_ ?_
                          · kernel_rfl
                          · kernel_rfl
                        · kernel_rfl
                      · exact sim_none
                      · exact rfl
                  · refine sim_cons ?_ ?_
                    · refine sim_ok ?_
                      · refine sim_Assign ok ?_ ?_ ?_
                        · refine sim_Attribute ok ?_ ?_
                          · refine sim_Name ok ?_ ?_
                            · kernel_rfl
                            · kernel_rfl
                          · kernel_rfl
                        · exact (.inl (by kernel_rfl))
                        · kernel_rfl
                    · refine sim_one ?_
                      · refine sim_Expr ?_ ?_ ?_ ?_
                        · refine sim_ML ok PySem.F.slot_list_append ?_ pc_append ?_ ?_ ?_ ?_ ?_ ?_
                          · exact rfl
                          · refine sim_Name ok ?_ ?_
                            · kernel_rfl
                            · kernel_rfl
                          · refine sim_args_cons ?_ ?_ ?_
                            · refine sim_JoinedStr ?_
                              · refine sim_parts_cons ?_ ?_
                                · exact sim_str
                                · refine sim_parts_cons ?_ ?_
                                  · refine sim_Fmt ?_
                                    · refine sim_AttributeX ok ?_ ?_
                                      · refine sim_Name ok ?_ ?_
                                        · kernel_rfl
                                        · kernel_rfl
                                      · kernel_rfl
                                  · refine sim_parts_cons ?_ ?_
                                    · exact sim_str
                                    · refine sim_parts_cons ?_ ?_
                                      · refine sim_Fmt ?_
                                        · refine sim_AttributeX ok ?_ ?_
                                          · refine sim_Name ok ?_ ?_
                                            · kernel_rfl
                                            · kernel_rfl
                                          · kernel_rfl
                                      · exact sim_parts_nil
                            · exact sim_args_nil
                            · exact (star_plain rfl)
                          · exact (plain_cons rfl plain_nil)
                          · exact rfl
                          · exact rfl
                          · exact rfl
                        · kernel_rfl
                        · kernel_rfl
                        · exact fun _ => by kernel_rfl
                  · exact sim_nil
                · refine x_If ?_ ?_ ?_ ?_
                  · refine sim_ok ?_
                    · refine sim_test_Compare ?_ ?_ p_isnot p_truthy ?_
                      · refine sim_Attribute ok ?_ ?_
                        · refine sim_Name ok ?_ ?_
                          · kernel_rfl
                          · kernel_rfl
                        · kernel_rfl
                      · exact sim_none
                      · exact rfl
                  · exact nox_ok _
                  · refine x_cons ?_ ?_ ?_
                    · refine sim_ok ?_
                      · refine sim_Assign ok ?_ ?_ ?_
                        · refine sim_Attribute ok ?_ ?_
                          · refine sim_Name ok ?_ ?_
                            · kernel_rfl
                            · kernel_rfl
                          · kernel_rfl
                        · exact (.inl (by kernel_rfl))
                        · kernel_rfl
                    · refine x_nox ?_
                      · exact nox_ok _
                    · refine x_one ?_
                      · refine x_Expr ?_ ?_ ?_
                        · refine x_ML ok PySem.F.slot_list_append ?_ ?_ ?_ ?_ ?_ ?_ ?_ ?_ ?_
                          · exact rfl
                          · exact (fun _ => nox_append _)
                          · refine sim_Name ok ?_ ?_
                            · kernel_rfl
                            · kernel_rfl
                          · exact (nox_getL _)
                          · refine x_arg1 ?_ ?_
                            · refine x_JoinedStr ?_ ?_
                              · refine sim_parts_cons ?_ ?_
                                · exact sim_str
                                · refine sim_parts_cons ?_ ?_
                                  · refine sim_Fmt ?_
                                    · refine sim_AttributeX ok ?_ ?_
                                      · refine sim_Name ok ?_ ?_
                                        · kernel_rfl
                                        · kernel_rfl
                                      · kernel_rfl
                                  · refine sim_parts_cons ?_ ?_
                                    · exact sim_str
                                    · refine sim_parts_cons ?_ ?_
                                      · refine sim_Fmt ?_
                                        · refine sim_AttributeX ok ?_ ?_
                                          · refine sim_Name ok ?_ ?_
                                            · kernel_rfl
                                            · kernel_rfl
                                          · kernel_rfl
                                      · exact sim_parts_nil
                              · refine x_parts_cons ?_ ?_
                                · refine x_nox ?_
                                  · exact nox_pure _
                                · refine x_parts_cons ?_ ?_
                                  · refine x_Fmt ?_
                                    · refine x_Attribute ok ?_ ?_ ?_ ?_
                                      · refine sim_Name ok ?_ ?_
                                        · kernel_rfl
                                        · kernel_rfl
                                      · exact nox_getL _
                                      · kernel_rfl
                                      · exact am_miss_of_fast (by kernel_rfl)
                                  · refine x_parts_cons ?_ ?_
                                    · refine x_nox ?_
                                      · exact nox_pure _
                                    · refine x_parts_cons ?_ ?_
                                      · refine x_Fmt ?_
                                        · refine x_Attribute ok ?_ ?_ ?_ ?_
                                          · refine sim_Name ok ?_ ?_
                                            · kernel_rfl
                                            · kernel_rfl
                                          · exact nox_getL _
                                          · kernel_rfl
                                          · exact am_miss_of_fast (by kernel_rfl)
                                      · exact x_parts_nil
                            · exact (star_plain rfl)
                          · exact (plain_cons rfl plain_nil)
                          · exact rfl
                          · exact rfl
                          · exact rfl
                        · kernel_rfl
                        · kernel_rfl
                  · exact x_nil
                · refine x_cons ?_ ?_ ?_
                  · refine sim_If ?_ ?_ ?_
                    · refine sim_ok ?_
                      · refine sim_test ?_ p_truthy
                        · refine sim_Attribute ok ?_ ?_
                          · refine sim_Name ok ?_ ?_
                            · kernel_rfl
                            · kernel_rfl
                          · kernel_rfl
                    · refine sim_one ?_
                      · refine sim_Expr ?_ ?_ ?_ ?_
                        · refine sim_ExtMap ok S.o ?_ ?_ ?_ ?_ ?_ ?_ ?_
                          · refine sim_Name ok ?_ ?_
                            · kernel_rfl
                            · kernel_rfl
                          · refine sim_Builtin ok ?_ ?_ ?_ ?_ ?_
                            · kernel_rfl
                            · kernel_rfl
                            · kernel_rfl
                            · exact (by decide)
                            · kernel_rfl
                          · refine sim_Builtin ok ?_ ?_ ?_ ?_ ?_
                            · kernel_rfl
                            · kernel_rfl
                            · kernel_rfl
                            · exact (by decide)
                            · kernel_rfl
                          · refine sim_ok ?_
                            · refine sim_Attribute ok ?_ ?_
                              · refine sim_Name ok ?_ ?_
                                · kernel_rfl
                                · kernel_rfl
                              · kernel_rfl
                          · exact rfl
                          · exact rfl
                          · exact rfl
                        · kernel_rfl
                        · kernel_rfl
                        · exact fun _ => by kernel_rfl
                    · refine sim_one ?_
                      · refine sim_ok ?_
                        · refine sim_Expr ?_ ?_ ?_ ?_
                          · refine sim_ML ok PySem.F.slot_list_append ?_ pc_append ?_ ?_ ?_ ?_ ?_ ?_
                            · exact rfl
                            · refine sim_Name ok ?_ ?_
                              · kernel_rfl
                              · kernel_rfl
                            · refine sim_args_cons ?_ ?_ ?_
                              · exact sim_str
                              · exact sim_args_nil
                              · exact (star_plain rfl)
                            · exact (plain_cons rfl plain_nil)
                            · exact rfl
                            · exact rfl
                            · exact rfl
                          · kernel_rfl
                          · kernel_rfl
                          · exact fun _ => by kernel_rfl
                  · refine x_If ?_ ?_ ?_ ?_
                    · refine sim_ok ?_
                      · refine sim_test ?_ p_truthy
                        · refine sim_Attribute ok ?_ ?_
                          · refine sim_Name ok ?_ ?_
                            · kernel_rfl
                            · kernel_rfl
                          · kernel_rfl
                    · exact nox_ok _
                    · refine x_one ?_
                      · refine x_Expr ?_ ?_ ?_
                        · refine SimX.weak ?_
                          · refine x_ExtMap ok S ?_ ?_ ?_ ?_ ?_ ?_ ?_ ?_ ?_
                            · refine sim_Name ok ?_ ?_
                              · kernel_rfl
                              · kernel_rfl
                            · exact (nox_getL _)
                            · refine sim_Builtin ok ?_ ?_ ?_ ?_ ?_
                              · kernel_rfl
                              · kernel_rfl
                              · kernel_rfl
                              · exact (by decide)
                              · kernel_rfl
                            · refine sim_Builtin ok ?_ ?_ ?_ ?_ ?_
                              · kernel_rfl
                              · kernel_rfl
                              · kernel_rfl
                              · exact (by decide)
                              · kernel_rfl
                            · refine sim_ok ?_
                              · refine sim_Attribute ok ?_ ?_
                                · refine sim_Name ok ?_ ?_
                                  · kernel_rfl
                                  · kernel_rfl
                                · kernel_rfl
                            · exact (nox_ok _)
                            · exact rfl
                            · exact rfl
                            · exact rfl
                        · kernel_rfl
                        · kernel_rfl
                    · refine x_one ?_
                      · refine x_nox ?_
                        · exact nox_ok _
                  · refine x_one ?_
                    · refine x_nox ?_
                      · exact nox_ok _
theorem sx_str (cx : Cx) (hK : cx.K = hd.heap_39 cx.w.params) (hC : cx.C = 59) (hn : 2 + 1 ≤ cx.n) : StrX cx 2 42 (strX 2) := by
  obtain ⟨prog, w, K, C, p, loose, mg, mb, h₀, L, A, fenv, env, base, outer, os, n, fm, fzn, lam, tab⟩ := cx
  dsimp only at hK hC hn
  subst hK hC
  exact ⟨⟨hn, by kernel_rfl, by kernel_rfl, (fn_strX 2).1 _ rfl rfl⟩, fun _ => (fn_strX 2).2 _ rfl rfl, strX_ae 2⟩
theorem fn_text (cx : Cx) (hK : cx.K = hd.heap_39 cx.w.params) (hC : cx.C = 59) (hout : cx.outer = []) : Fn cx 3 70 ["one"] text04 := by
  obtain ⟨prog, w, K, C, p, loose, mg, mb, h₀, L, A, fenv, env, base, outer, os, n, fm, fzn, lam, tab⟩ := cx
  dsimp only at hK hC
  subst hK hC
  refine fn_try hout (by rfl) (by rfl) (fun Vs hVs => ?_) ?_ (by decide) (by decide) rfl rfl rfl ?_
  · match Vs, hVs with
    | [a], _ => rfl
  · decide
  · intro A' g L' ok
    refine sim_Try ok rfl rfl ?_ ?_ ?_
    · refine sim_one ?_
      · refine sim_Return ?_
        · refine sim_Call ok (u := .type "str") ?_ ?_ keep_type ?_ ?_ call_name
          · refine sim_Builtin ok ?_ ?_ ?_ ?_ ?_
            · kernel_rfl
            · kernel_rfl
            · kernel_rfl
            · exact (by decide)
            · kernel_rfl
          · refine sim_ok ?_
            · refine sim_args_cons ?_ ?_ ?_
              · refine sim_Name ok ?_ ?_
                · kernel_rfl
                · kernel_rfl
              · exact sim_args_nil
              · exact (star_plain rfl)
          · exact (pc_str ok (sx_str _ rfl rfl (Nat.le_of_ble_eq_true (by kernel_rfl))).o)
          · exact (plain_cons rfl plain_nil)
    · refine x_one ?_
      · refine x_Return ?_
        · refine x_Call ok (u := .type "str") ?_ ?_ ?_ keep_type ?_ ?_ call_name
          · refine sim_Builtin ok ?_ ?_ ?_ ?_ ?_
            · kernel_rfl
            · kernel_rfl
            · kernel_rfl
            · exact (by decide)
            · kernel_rfl
          · refine sim_ok ?_
            · refine sim_args_cons ?_ ?_ ?_
              · refine sim_Name ok ?_ ?_
                · kernel_rfl
                · kernel_rfl
              · exact sim_args_nil
              · exact (star_plain rfl)
          · exact (nox_ok _)
          · exact (pcx_str ok (sx_str _ rfl rfl (Nat.le_of_ble_eq_true (by kernel_rfl))))
          · exact (plain_cons rfl plain_nil)
    · intro k v hl base ρ hid fz led m mloc st e a0 s a Q E hQ
      obtain ⟨rfl, rfl⟩ := look1 hl
      exact hand_hit ok a (by kernel_rfl) (by kernel_rfl) (by kernel_rfl) (by decide) (by kernel_rfl) ae_exc ae_nt sub_AttributeError ret_none hQ
theorem fn_rate (cx : Cx) (hK : cx.K = hd.heap_39 cx.w.params) (hC : cx.C = 59) : Fn cx 1 77 ["kind"] rate04 := by
  obtain ⟨prog, w, K, C, p, loose, mg, mb, h₀, L, A, fenv, env, base, outer, os, n, fm, fzn, lam, tab⟩ := cx
  dsimp only at hK hC
  subst hK hC
  refine fn_user (by rfl) (by rfl) (fun Vs hVs => ?_) ?_ (by decide) (by decide) rfl rfl rfl ?_
  · match Vs, hVs with
    | [a], _ => rfl
  · decide
  · intro A' g L' ok
    refine body_of ?_
    · refine sim_cons ?_ ?_
      · refine sim_If ?_ ?_ ?_
        · refine sim_test_Compare ?_ ?_ ?_ p_truthy ?_
          · refine sim_Name ok ?_ ?_
            · kernel_rfl
            · kernel_rfl
          · exact sim_int
          · exact (p_eq ok)
          · exact rfl
        · refine sim_one ?_
          · refine sim_Return ?_
            · exact sim_none
        · exact sim_nil
      · refine sim_cons ?_ ?_
        · refine sim_If ?_ ?_ ?_
          · refine sim_test_Compare ?_ ?_ ?_ p_truthy ?_
            · refine sim_Name ok ?_ ?_
              · kernel_rfl
              · kernel_rfl
            · exact sim_int
            · exact (p_eq ok)
            · exact rfl
          · refine sim_one ?_
            · refine sim_Return ?_
              · refine sim_Tuple ?_
                · refine sim_args_cons ?_ ?_ ?_
                  · exact sim_int
                  · refine sim_args_cons ?_ ?_ ?_
                    · exact sim_int
                    · exact sim_args_nil
                    · exact (star_plain rfl)
                  · exact (star_plain rfl)
          · exact sim_nil
        · refine sim_cons ?_ ?_
          · refine sim_Assign ok ?_ ?_ ?_
            · refine sim_Call ok (u := .ref 59) ?_ ?_ ?_ ?_ plain_nil call_name
              · refine sim_Global ok ?_ ?_ ?_
                · kernel_rfl
                · kernel_rfl
                · kernel_rfl
              · exact sim_args_nil
              · exact (keep_K (by kernel_rfl))
              · exact (pc_class ok (k := 0) (Nat.le_of_ble_eq_true (by kernel_rfl)) (by kernel_rfl) (by kernel_rfl) (by kernel_rfl) (fn_init _ rfl rfl))
            · exact (.inl (by kernel_rfl))
            · kernel_rfl
          · refine sim_cons ?_ ?_
            · refine sim_If ?_ ?_ ?_
              · refine sim_test_Compare ?_ ?_ ?_ p_truthy ?_
                · refine sim_Name ok ?_ ?_
                  · kernel_rfl
                  · kernel_rfl
                · exact sim_int
                · exact (p_ne ok)
                · exact rfl
              · refine sim_one ?_
                · refine sim_AssignAttr ok ?_ ?_ ?_ ?_
                  · exact sim_int
                  · refine sim_Name ok ?_ ?_
                    · kernel_rfl
                    · kernel_rfl
                  · kernel_rfl
                  · kernel_rfl
              · exact sim_nil
            · refine sim_cons ?_ ?_
              · refine sim_If ?_ ?_ ?_
                · refine sim_test_Compare ?_ ?_ ?_ p_truthy ?_
                  · refine sim_Name ok ?_ ?_
                    · kernel_rfl
                    · kernel_rfl
                  · exact sim_int
                  · exact (p_ne ok)
                  · exact rfl
                · refine sim_one ?_
                  · refine sim_AssignAttr ok ?_ ?_ ?_ ?_
                    · exact sim_int
                    · refine sim_Name ok ?_ ?_
                      · kernel_rfl
                      · kernel_rfl
                    · kernel_rfl
                    · kernel_rfl
                · exact sim_nil
              · refine sim_one ?_
                · refine sim_Return ?_
                  · refine sim_Name ok ?_ ?_
                    · kernel_rfl
                    · kernel_rfl
theorem fn_rules (cx : Cx) (hK : cx.K = hd.heap_39 cx.w.params) (hC : cx.C = 59) : Fn cx 1 84 ["kind"] rules04 := by
  obtain ⟨prog, w, K, C, p, loose, mg, mb, h₀, L, A, fenv, env, base, outer, os, n, fm, fzn, lam, tab⟩ := cx
  dsimp only at hK hC
  subst hK hC
  refine fn_user (by rfl) (by rfl) (fun Vs hVs => ?_) ?_ (by decide) (by decide) rfl rfl rfl ?_
  · match Vs, hVs with
    | [a], _ => rfl
  · decide
  · intro A' g L' ok
    refine body_of ?_
    · refine sim_cons ?_ ?_
      · refine sim_If ?_ ?_ ?_
        · refine sim_test_Compare ?_ ?_ ?_ p_truthy ?_
          · refine sim_Name ok ?_ ?_
            · kernel_rfl
            · kernel_rfl
          · exact sim_int
          · exact (p_eq ok)
          · exact rfl
        · refine sim_one ?_
          · refine sim_Return ?_
            · refine sim_List ?_
              · exact sim_args_nil
        · exact sim_nil
      · refine sim_cons ?_ ?_
        · refine sim_Assign ok ?_ ?_ ?_
          · refine sim_List ?_
            · refine sim_args_cons ?_ ?_ ?_
              · exact sim_str
              · refine sim_args_cons ?_ ?_ ?_
                · exact sim_str
                · exact sim_args_nil
                · exact (star_plain rfl)
              · exact (star_plain rfl)
          · exact (.inl (by kernel_rfl))
          · kernel_rfl
        · refine sim_cons ?_ ?_
          · refine sim_If ?_ ?_ ?_
            · refine sim_test_Compare ?_ ?_ p_gt p_truthy ?_
              · refine sim_Name ok ?_ ?_
                · kernel_rfl
                · kernel_rfl
              · exact sim_int
              · exact rfl
            · refine sim_cons ?_ ?_
              · refine sim_Assign ok ?_ ?_ ?_
                · refine sim_Call ok (u := .ref 59) ?_ ?_ ?_ ?_ plain_nil call_name
                  · refine sim_Global ok ?_ ?_ ?_
                    · kernel_rfl
                    · kernel_rfl
                    · kernel_rfl
                  · exact sim_args_nil
                  · exact (keep_K (by kernel_rfl))
                  · exact (pc_class ok (k := 0) (Nat.le_of_ble_eq_true (by kernel_rfl)) (by kernel_rfl) (by kernel_rfl) (by kernel_rfl) (fn_init _ rfl rfl))
                · exact (.inl (by kernel_rfl))
                · kernel_rfl
              · refine sim_cons ?_ ?_
                · refine sim_AssignAttr ok ?_ ?_ ?_ ?_
                  · refine sim_Tuple ?_
                    · refine sim_args_cons ?_ ?_ ?_
                      · exact sim_int
                      · refine sim_args_cons ?_ ?_ ?_
                        · exact sim_int
                        · exact sim_args_nil
                        · exact (star_plain rfl)
                      · exact (star_plain rfl)
                  · refine sim_Name ok ?_ ?_
                    · kernel_rfl
                    · kernel_rfl
                  · kernel_rfl
                  · kernel_rfl
                · refine sim_cons ?_ ?_
                  · refine sim_If ?_ ?_ ?_
                    · refine sim_test_Compare ?_ ?_ ?_ p_truthy ?_
                      · refine sim_Name ok ?_ ?_
                        · kernel_rfl
                        · kernel_rfl
                      · exact sim_int
                      · exact (p_eq ok)
                      · exact rfl
                    · refine sim_one ?_
                      · refine sim_Expr ?_ ?_ ?_ ?_
                        · refine sim_ML ok PySem.F.slot_list_append ?_ pc_append ?_ ?_ ?_ ?_ ?_ ?_
                          · exact rfl
                          · refine sim_Attribute ok ?_ ?_
                            · refine sim_Name ok ?_ ?_
                              · kernel_rfl
                              · kernel_rfl
                            · kernel_rfl
                          · refine sim_args_cons ?_ ?_ ?_
                            · exact sim_str
                            · exact sim_args_nil
                            · exact (star_plain rfl)
                          · exact (plain_cons rfl plain_nil)
                          · exact rfl
                          · exact rfl
                          · exact rfl
                        · kernel_rfl
                        · kernel_rfl
                        · exact fun _ => by kernel_rfl
                    · exact sim_nil
                  · refine sim_one ?_
                    · refine sim_Expr ?_ ?_ ?_ ?_
                      · refine sim_ML ok PySem.F.slot_list_insert ?_ pc_insert ?_ ?_ ?_ ?_ ?_ ?_
                        · exact rfl
                        · refine sim_Name ok ?_ ?_
                          · kernel_rfl
                          · kernel_rfl
                        · refine sim_args_cons ?_ ?_ ?_
                          · exact sim_int
                          · refine sim_args_cons ?_ ?_ ?_
                            · refine sim_Name ok ?_ ?_
                              · kernel_rfl
                              · kernel_rfl
                            · exact sim_args_nil
                            · exact (star_plain rfl)
                          · exact (star_plain rfl)
                        · exact (plain_cons rfl (plain_cons rfl plain_nil))
                        · exact rfl
                        · exact rfl
                        · exact rfl
                      · kernel_rfl
                      · kernel_rfl
                      · exact fun _ => by kernel_rfl
            · exact sim_nil
          · refine sim_one ?_
            · refine sim_Return ?_
              · refine sim_Name ok ?_ ?_
                · kernel_rfl
                · kernel_rfl
end Mine
set_option maxRecDepth 100000 in
set_option maxHeartbeats 8000000 in
theorem PySem.Challenge.cw_dn0257_04_holds : PySem.Challenge.rw_dn0257_04.Holds := by
  refine Mine.hd ?_
  k_fill
  intro w s₀ s₁ mg mb G Y fa o pm cd doc dV kV ho hd hcd hD hmg hg args vals as hpre hlay hrd hwl hlo
  have KX := kIn_of Y
  refine Ground.open G ?_
  intro T B D TE TW
  try (refine guard_noD D (by decide +kernel) ?_; clear D)
  clear hmg
  wrow_args hpre hlay hrd hwl hlo
  all_goals (
    first | refine callC_kw (enter_call ?_) | refine enter_call ?_
    try refine codeAny_mono ?_ (fun _ _ g => GoodW.toG g))
  have he := Dflts.none hD rfl; subst he; have he := Dflts.noKw hD; subst he
  rename_i xs _ _ _ _ _ _ _ a Vs _ hL _ _ _ hI _ hc _
  skip
  refine Mine.enter_law (n := 5) (C := 59) (xs := xs) (mbody := Mine.law04 a xs) (by decide) (topRead_of T) (by exact T.bmain) KX ho (fd_plain hd) hcd hg hL hI rfl rfl (by decide) rfl rfl rfl (fun ok hO => ?_) ?_ ?_
  · open Mine in
    refine sim_cons ?_ ?_
    · refine sim_For ok ?_ ?_ ?_ ?_
      · refine sim_BinOp ?_ ?_ p_add
        · refine sim_Call ok (u := .type "list") ?_ ?_ keep_type ?_ ?_ call_name
          · refine sim_Builtin ok ?_ ?_ ?_ ?_ ?_
            · kernel_rfl
            · kernel_rfl
            · kernel_rfl
            · exact (by decide)
            · kernel_rfl
          · refine sim_args_cons ?_ ?_ ?_
            · refine sim_Name ok ?_ ?_
              · kernel_rfl
              · kernel_rfl
            · exact sim_args_nil
            · exact (star_plain rfl)
          · exact (pc_listG hO)
          · exact (plain_cons rfl plain_nil)
        · refine sim_List ?_
          · refine sim_args_cons ?_ ?_ ?_
            · exact sim_int
            · exact sim_args_nil
            · exact (star_plain rfl)
      · refine sim_target ok ?_
        · exact (.inl (by kernel_rfl))
      · refine sim_cons ?_ ?_
        · refine sim_Assign ok ?_ ?_ ?_
          · refine sim_BinOp ?_ ?_ p_mod
            · refine sim_Name ok ?_ ?_
              · kernel_rfl
              · kernel_rfl
            · exact sim_int
          · exact (.inl (by kernel_rfl))
          · kernel_rfl
        · refine sim_cons ?_ ?_
          · refine sim_Assign ok ?_ ?_ ?_
            · refine sim_BinOp ?_ ?_ p_mod
              · refine sim_BinOp ?_ ?_ p_div
                · refine sim_Name ok ?_ ?_
                  · kernel_rfl
                  · kernel_rfl
                · exact sim_int
              · exact sim_int
            · exact (.inl (by kernel_rfl))
            · kernel_rfl
          · refine sim_cons ?_ ?_
            · refine sim_Assign ok ?_ ?_ ?_
              · refine sim_BinOp ?_ ?_ p_mod
                · refine sim_BinOp ?_ ?_ p_div
                  · refine sim_Name ok ?_ ?_
                    · kernel_rfl
                    · kernel_rfl
                  · exact sim_int
                · exact sim_int
              · exact (.inl (by kernel_rfl))
              · kernel_rfl
            · refine sim_cons ?_ ?_
              · refine sim_Assign ok ?_ ?_ ?_
                · refine sim_Compare ?_ ?_ ?_ ?_
                  · refine sim_BinOp ?_ ?_ p_mod
                    · refine sim_BinOp ?_ ?_ p_div
                      · refine sim_Name ok ?_ ?_
                        · kernel_rfl
                        · kernel_rfl
                      · exact sim_int
                    · exact sim_int
                  · exact sim_int
                  · exact (p_eq ok)
                  · exact rfl
                · exact (.inl (by kernel_rfl))
                · kernel_rfl
              · refine sim_cons ?_ ?_
                · refine sim_Assign ok ?_ ?_ ?_
                  · refine sim_Slice ?_ ?_ ?_
                    · refine sim_List ?_
                      · refine sim_args_cons ?_ ?_ ?_
                        · exact sim_str
                        · refine sim_args_cons ?_ ?_ ?_
                          · exact sim_str
                          · exact sim_args_nil
                          · exact (star_plain rfl)
                        · exact (star_plain rfl)
                    · exact sim_part_none
                    · refine sim_part_some ?_
                      · refine sim_Name ok ?_ ?_
                        · kernel_rfl
                        · kernel_rfl
                  · exact (.inl (by kernel_rfl))
                  · kernel_rfl
                · refine sim_cons ?_ ?_
                  · refine sim_Assign ok ?_ ?_ ?_
                    · refine sim_Call ok (u := .ref 77) ?_ ?_ ?_ ?_ ?_ call_name
                      · refine sim_Global ok ?_ ?_ ?_
                        · kernel_rfl
                        · kernel_rfl
                        · kernel_rfl
                      · refine sim_args_cons ?_ ?_ ?_
                        · refine sim_Name ok ?_ ?_
                          · kernel_rfl
                          · kernel_rfl
                        · exact sim_args_nil
                        · exact (star_plain rfl)
                      · exact (keep_K (by kernel_rfl))
                      · exact (pc_user ok (k := 1) (Nat.le_of_ble_eq_true (by kernel_rfl)) (fn_rate _ rfl rfl))
                      · exact (plain_cons rfl plain_nil)
                    · exact (.inl (by kernel_rfl))
                    · kernel_rfl
                  · refine sim_cons ?_ ?_
                    · refine sim_Assign ok ?_ ?_ ?_
                      · refine sim_Call ok (u := .ref 84) ?_ ?_ ?_ ?_ ?_ call_name
                        · refine sim_Global ok ?_ ?_ ?_
                          · kernel_rfl
                          · kernel_rfl
                          · kernel_rfl
                        · refine sim_args_cons ?_ ?_ ?_
                          · refine sim_Name ok ?_ ?_
                            · kernel_rfl
                            · kernel_rfl
                          · exact sim_args_nil
                          · exact (star_plain rfl)
                        · exact (keep_K (by kernel_rfl))
                        · exact (pc_user ok (k := 1) (Nat.le_of_ble_eq_true (by kernel_rfl)) (fn_rules _ rfl rfl))
                        · exact (plain_cons rfl plain_nil)
                      · exact (.inl (by kernel_rfl))
                      · kernel_rfl
                    · refine sim_cons ?_ ?_
                      · refine sim_Assign ok ?_ ?_ ?_
                        · refine sim_Call ok (u := .ref 59) ?_ ?_ ?_ ?_ plain_nil call_name
                          · refine sim_Global ok ?_ ?_ ?_
                            · kernel_rfl
                            · kernel_rfl
                            · kernel_rfl
                          · exact sim_args_nil
                          · exact (keep_K (by kernel_rfl))
                          · exact (pc_class ok (k := 0) (Nat.le_of_ble_eq_true (by kernel_rfl)) (by kernel_rfl) (by kernel_rfl) (by kernel_rfl) (fn_init _ rfl rfl))
                        · exact (.inl (by kernel_rfl))
                        · kernel_rfl
                      · refine sim_cons ?_ ?_
                        · refine sim_AssignAttr ok ?_ ?_ ?_ ?_
                          · refine sim_Name ok ?_ ?_
                            · kernel_rfl
                            · kernel_rfl
                          · refine sim_Name ok ?_ ?_
                            · kernel_rfl
                            · kernel_rfl
                          · kernel_rfl
                          · kernel_rfl
                        · refine sim_cons ?_ ?_
                          · refine sim_AssignAttr ok ?_ ?_ ?_ ?_
                            · refine sim_Name ok ?_ ?_
                              · kernel_rfl
                              · kernel_rfl
                            · refine sim_Name ok ?_ ?_
                              · kernel_rfl
                              · kernel_rfl
                            · kernel_rfl
                            · kernel_rfl
                          · refine sim_cons ?_ ?_
                            · refine sim_AssignAttr ok ?_ ?_ ?_ ?_
                              · refine sim_Name ok ?_ ?_
                                · kernel_rfl
                                · kernel_rfl
                              · refine sim_Name ok ?_ ?_
                                · kernel_rfl
                                · kernel_rfl
                              · kernel_rfl
                              · kernel_rfl
                            · refine sim_cons ?_ ?_
                              · refine sim_If ?_ ?_ ?_
                                · refine sim_test ?_ p_truthy
                                  · refine sim_Name ok ?_ ?_
                                    · kernel_rfl
                                    · kernel_rfl
                                · refine sim_one ?_
                                  · refine sim_AssignAttr ok ?_ ?_ ?_ ?_
                                    · exact sim_int
                                    · refine sim_Name ok ?_ ?_
                                      · kernel_rfl
                                      · kernel_rfl
                                    · kernel_rfl
                                    · kernel_rfl
                                · exact sim_nil
                              · refine sim_cons ?_ ?_
                                · refine sim_Assign ok ?_ ?_ ?_
                                  · refine sim_Call ok (u := .type "list") ?_ ?_ keep_type pc_list ?_ call_name
                                    · refine sim_Builtin ok ?_ ?_ ?_ ?_ ?_
                                      · kernel_rfl
                                      · kernel_rfl
                                      · kernel_rfl
                                      · exact (by decide)
                                      · kernel_rfl
                                    · refine sim_args_cons ?_ ?_ ?_
                                      · refine sim_Name ok ?_ ?_
                                        · kernel_rfl
                                        · kernel_rfl
                                      · exact sim_args_nil
                                      · exact (star_plain rfl)
                                    · exact (plain_cons rfl plain_nil)
                                  · exact (.inl (by kernel_rfl))
                                  · kernel_rfl
                                · refine sim_cons ?_ ?_
                                  · refine sim_Assign ok ?_ ?_ ?_
                                    · refine sim_Subscript ok ?_ ?_ ?_
                                      · refine sim_List ?_
                                        · refine sim_args_cons ?_ ?_ ?_
                                          · exact sim_str
                                          · refine sim_args_cons ?_ ?_ ?_
                                            · exact sim_str
                                            · refine sim_args_cons ?_ ?_ ?_
                                              · exact sim_str
                                              · exact sim_args_nil
                                              · exact (star_plain rfl)
                                            · exact (star_plain rfl)
                                          · exact (star_plain rfl)
                                      · refine sim_Name ok ?_ ?_
                                        · kernel_rfl
                                        · kernel_rfl
                                      · exact fun _ _ => rfl
                                    · exact (.inl (by kernel_rfl))
                                    · kernel_rfl
                                  · refine sim_cons ?_ ?_
                                    · refine sim_AugName ok ?_ p_iadd ?_ ?_
                                      · refine sim_IfExp ?_ ?_ ?_
                                        · refine sim_test ?_ p_truthy
                                          · refine sim_Name ok ?_ ?_
                                            · kernel_rfl
                                            · kernel_rfl
                                        · exact sim_str
                                        · exact sim_str
                                      · exact (.inl (by kernel_rfl))
                                      · kernel_rfl
                                    · refine sim_cons ?_ ?_
                                      · refine sim_If ?_ ?_ ?_
                                        · refine sim_test_Compare ?_ ?_ ?_ p_truthy ?_
                                          · refine sim_Name ok ?_ ?_
                                            · kernel_rfl
                                            · kernel_rfl
                                          · exact sim_int
                                          · exact (p_eq ok)
                                          · exact rfl
                                        · refine sim_one ?_
                                          · refine sim_Assign ok ?_ ?_ ?_
                                            · exact sim_str
                                            · exact (.inl (by kernel_rfl))
                                            · kernel_rfl
                                        · refine sim_one ?_
                                          · refine sim_If ?_ ?_ ?_
                                            · refine sim_test_BoolOp ?_
                                              · refine sim_all_or ?_ ?_
                                                · refine sim_test_Compare ?_ ?_ p_gt p_truthy ?_
                                                  · refine sim_Name ok ?_ ?_
                                                    · kernel_rfl
                                                    · kernel_rfl
                                                  · exact sim_int
                                                  · exact rfl
                                                · refine sim_all_or ?_ ?_
                                                  · refine sim_test_Compare ?_ ?_ ?_ p_truthy ?_
                                                    · refine sim_Name ok ?_ ?_
                                                      · kernel_rfl
                                                      · kernel_rfl
                                                    · exact sim_int
                                                    · exact (p_eq ok)
                                                    · exact rfl
                                                  · exact sim_all_nil_or
                                            · refine sim_one ?_
                                              · refine sim_Assign ok ?_ ?_ ?_
                                                · exact sim_none
                                                · exact (.inl (by kernel_rfl))
                                                · kernel_rfl
                                            · refine sim_cons ?_ ?_
                                              · refine sim_Assign ok ?_ ?_ ?_
                                                · refine sim_BinOp ?_ ?_ p_add
                                                  · refine sim_Name ok ?_ ?_
                                                    · kernel_rfl
                                                    · kernel_rfl
                                                  · refine sim_Subscript ok ?_ ?_ ?_
                                                    · refine sim_List ?_
                                                      · refine sim_args_cons ?_ ?_ ?_
                                                        · exact sim_str
                                                        · refine sim_args_cons ?_ ?_ ?_
                                                          · exact sim_str
                                                          · exact sim_args_nil
                                                          · exact (star_plain rfl)
                                                        · exact (star_plain rfl)
                                                    · refine sim_Name ok ?_ ?_
                                                      · kernel_rfl
                                                      · kernel_rfl
                                                    · exact fun _ _ => rfl
                                                · exact (.inl (by kernel_rfl))
                                                · kernel_rfl
                                              · refine sim_one ?_
                                                · refine sim_AugName ok ?_ p_iadd ?_ ?_
                                                  · refine sim_Subscript ok ?_ ?_ ?_
                                                    · refine sim_List ?_
                                                      · refine sim_args_cons ?_ ?_ ?_
                                                        · exact sim_str
                                                        · refine sim_args_cons ?_ ?_ ?_
                                                          · exact sim_str
                                                          · refine sim_args_cons ?_ ?_ ?_
                                                            · exact sim_str
                                                            · refine sim_args_cons ?_ ?_ ?_
                                                              · exact sim_str
                                                              · exact sim_args_nil
                                                              · exact (star_plain rfl)
                                                            · exact (star_plain rfl)
                                                          · exact (star_plain rfl)
                                                        · exact (star_plain rfl)
                                                    · refine sim_Name ok ?_ ?_
                                                      · kernel_rfl
                                                      · kernel_rfl
                                                    · exact fun _ _ => rfl
                                                  · exact (.inl (by kernel_rfl))
                                                  · kernel_rfl
                                      · refine sim_cons ?_ ?_
                                        · refine sim_For ok ?_ ?_ ?_ ?_
                                          · refine sim_Call ok (u := .type "range") ?_ ?_ keep_type pc_range ?_ call_name
                                            · refine sim_Builtin ok ?_ ?_ ?_ ?_ ?_
                                              · kernel_rfl
                                              · kernel_rfl
                                              · kernel_rfl
                                              · exact (by decide)
                                              · kernel_rfl
                                            · refine sim_args_cons ?_ ?_ ?_
                                              · exact sim_int
                                              · exact sim_args_nil
                                              · exact (star_plain rfl)
                                            · exact (plain_cons rfl plain_nil)
                                          · refine sim_target ok ?_
                                            · exact (.inl (by kernel_rfl))
                                          · refine sim_cons ?_ ?_
                                            · refine sim_If ?_ ?_ ?_
                                              · refine sim_test_Compare ?_ ?_ ?_ p_truthy ?_
                                                · refine sim_Call ok (u := .ref 70) ?_ ?_ ?_ ?_ ?_ call_name
                                                  · refine sim_Global ok ?_ ?_ ?_
                                                    · kernel_rfl
                                                    · kernel_rfl
                                                    · kernel_rfl
                                                  · refine sim_args_cons ?_ ?_ ?_
                                                    · refine sim_Name ok ?_ ?_
                                                      · kernel_rfl
                                                      · kernel_rfl
                                                    · exact sim_args_nil
                                                    · exact (star_plain rfl)
                                                  · exact (keep_K (by kernel_rfl))
                                                  · exact (pc_user ok (k := 3) (Nat.le_of_ble_eq_true (by kernel_rfl)) (fn_text _ rfl rfl rfl))
                                                  · exact (plain_cons rfl plain_nil)
                                                · refine sim_Name ok ?_ ?_
                                                  · kernel_rfl
                                                  · kernel_rfl
                                                · exact (p_ne ok)
                                                · exact rfl
                                              · refine sim_one ?_
                                                · refine sim_Return ?_
                                                  · exact sim_bool
                                              · exact sim_nil
                                            · refine sim_cons ?_ ?_
                                              · refine sim_If ?_ ?_ ?_
                                                · refine sim_test_BoolOp ?_
                                                  · refine sim_all_or ?_ ?_
                                                    · refine sim_test_Compare ?_ ?_ p_isnot p_truthy ?_
                                                      · refine sim_Attribute ok ?_ ?_
                                                        · refine sim_Name ok ?_ ?_
                                                          · kernel_rfl
                                                          · kernel_rfl
                                                        · kernel_rfl
                                                      · refine sim_Name ok ?_ ?_
                                                        · kernel_rfl
                                                        · kernel_rfl
                                                      · exact rfl
                                                    · refine sim_all_or ?_ ?_
                                                      · refine sim_test_Compare ?_ ?_ p_isnot p_truthy ?_
                                                        · refine sim_Attribute ok ?_ ?_
                                                          · refine sim_Name ok ?_ ?_
                                                            · kernel_rfl
                                                            · kernel_rfl
                                                          · kernel_rfl
                                                        · refine sim_Name ok ?_ ?_
                                                          · kernel_rfl
                                                          · kernel_rfl
                                                        · exact rfl
                                                      · refine sim_all_or ?_ ?_
                                                        · refine sim_test_Compare ?_ ?_ p_isnot p_truthy ?_
                                                          · refine sim_Attribute ok ?_ ?_
                                                            · refine sim_Name ok ?_ ?_
                                                              · kernel_rfl
                                                              · kernel_rfl
                                                            · kernel_rfl
                                                          · refine sim_Name ok ?_ ?_
                                                            · kernel_rfl
                                                            · kernel_rfl
                                                          · exact rfl
                                                        · exact sim_all_nil_or
                                                · refine sim_one ?_
                                                  · refine sim_Return ?_
                                                    · exact sim_bool
                                                · exact sim_nil
                                              · refine sim_one ?_
                                                · refine sim_If ?_ ?_ ?_
                                                  · refine sim_test_BoolOp ?_
                                                    · refine sim_all_or ?_ ?_
                                                      · refine sim_test_Compare ?_ ?_ ?_ p_truthy ?_
                                                        · refine sim_Name ok ?_ ?_
                                                          · kernel_rfl
                                                          · kernel_rfl
                                                        · refine sim_Name ok ?_ ?_
                                                          · kernel_rfl
                                                          · kernel_rfl
                                                        · exact (p_neX ok)
                                                        · exact rfl
                                                      · refine sim_all_or ?_ ?_
                                                        · refine sim_test_Compare ?_ ?_ ?_ p_truthy ?_
                                                          · refine sim_Attribute ok ?_ ?_
                                                            · refine sim_Name ok ?_ ?_
                                                              · kernel_rfl
                                                              · kernel_rfl
                                                            · kernel_rfl
                                                          · refine sim_IfExp ?_ ?_ ?_
                                                            · refine sim_test ?_ p_truthy
                                                              · refine sim_Name ok ?_ ?_
                                                                · kernel_rfl
                                                                · kernel_rfl
                                                            · exact sim_int
                                                            · exact sim_none
                                                          · exact (p_ne ok)
                                                          · exact rfl
                                                        · exact sim_all_nil_or
                                                  · refine sim_one ?_
                                                    · refine sim_Return ?_
                                                      · exact sim_bool
                                                  · exact sim_nil
                                          · exact fun _ => rfl
                                        · refine sim_cons ?_ ?_
                                          · refine sim_AssignAttr ok ?_ ?_ ?_ ?_
                                            · refine sim_Call ok (u := .ref 77) ?_ ?_ ?_ ?_ ?_ call_name
                                              · refine sim_Global ok ?_ ?_ ?_
                                                · kernel_rfl
                                                · kernel_rfl
                                                · kernel_rfl
                                              · refine sim_args_cons ?_ ?_ ?_
                                                · exact sim_int
                                                · exact sim_args_nil
                                                · exact (star_plain rfl)
                                              · exact (keep_K (by kernel_rfl))
                                              · exact (pc_user ok (k := 1) (Nat.le_of_ble_eq_true (by kernel_rfl)) (fn_rate _ rfl rfl))
                                              · exact (plain_cons rfl plain_nil)
                                            · refine sim_Name ok ?_ ?_
                                              · kernel_rfl
                                              · kernel_rfl
                                            · kernel_rfl
                                            · kernel_rfl
                                          · refine sim_cons ?_ ?_
                                            · refine sim_AssignAttr ok ?_ ?_ ?_ ?_
                                              · refine sim_List ?_
                                                · exact sim_args_nil
                                              · refine sim_Name ok ?_ ?_
                                                · kernel_rfl
                                                · kernel_rfl
                                              · kernel_rfl
                                              · kernel_rfl
                                            · refine sim_one ?_
                                              · refine sim_If ?_ ?_ ?_
                                                · refine sim_test_Compare ?_ ?_ ?_ p_truthy ?_
                                                  · refine sim_Call ok (u := .ref 70) ?_ ?_ ?_ ?_ ?_ call_name
                                                    · refine sim_Global ok ?_ ?_ ?_
                                                      · kernel_rfl
                                                      · kernel_rfl
                                                      · kernel_rfl
                                                    · refine sim_args_cons ?_ ?_ ?_
                                                      · refine sim_Name ok ?_ ?_
                                                        · kernel_rfl
                                                        · kernel_rfl
                                                      · exact sim_args_nil
                                                      · exact (star_plain rfl)
                                                    · exact (keep_K (by kernel_rfl))
                                                    · exact (pc_user ok (k := 3) (Nat.le_of_ble_eq_true (by kernel_rfl)) (fn_text _ rfl rfl rfl))
                                                    · exact (plain_cons rfl plain_nil)
                                                  · refine sim_IfExp ?_ ?_ ?_
                                                    · refine sim_test_Compare ?_ ?_ ?_ p_truthy ?_
                                                      · refine sim_Name ok ?_ ?_
                                                        · kernel_rfl
                                                        · kernel_rfl
                                                      · exact sim_int
                                                      · exact (p_eq ok)
                                                      · exact rfl
                                                    · exact sim_str
                                                    · refine sim_BinOp ?_ ?_ p_add
                                                      · refine sim_Name ok ?_ ?_
                                                        · kernel_rfl
                                                        · kernel_rfl
                                                      · exact sim_str
                                                  · exact (p_ne ok)
                                                  · exact rfl
                                                · refine sim_one ?_
                                                  · refine sim_Return ?_
                                                    · exact sim_bool
                                                · exact sim_nil
      · exact fun _ => rfl
    · refine sim_one ?_
      · refine sim_Return ?_
        · exact sim_bool
  · exact Mine.law04_true a xs (by omega)
  · intro s' F hg' hos
    obtain ⟨_, _, F⟩ := F
    refine goodW_bool F hg' ?_ ?_ hos
    · first | exact fun _ => rfl | exact raisesW_false (by wrow_none_raised)
    · first | rfl | exact postW_of (by wrow_shape) (by wtm_val) (by str_meet; first | done | w_fin)
